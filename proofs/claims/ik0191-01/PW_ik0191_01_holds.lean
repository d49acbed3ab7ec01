import PyProof.Rows.All
import Wide.All
import OpenK.AllK
import Wide.FinOn
import Lean
import PySem.Challenge.RW_ik0191_01
set_option genInjectivity false
set_option genSizeOf false
set_option compiler.extract_closed false
set_option Elab.async false
set_option maxRecDepth 100000
set_option linter.unusedVariables false
section
set_option genInjectivity false
set_option genSizeOf false
namespace Mine
inductive Ar where
  | V (i : Nat)
  | N (k : Nat)
  | P (x y : Ar)
  | L (k : Nat) (x : Ar)
  | R (k : Nat) (x : Ar)
noncomputable def Ar.at (c : List Nat) (i : Nat) : Nat := match c, i with
  | [], _ => 0
  | x :: _, 0 => x
  | _ :: c, i + 1 => Ar.at c i
noncomputable def Ar.den (c : List Nat) : Ar → Nat
  | .V i => Ar.at c i
  | .N k => k
  | .P x y => x.den c + y.den c
  | .L k x => k * x.den c
  | .R k x => x.den c * k
noncomputable def Ar.plus : List Nat → List Nat → List Nat
  | [], y => y
  | x, [] => x
  | a :: x, b :: y => (a + b) :: Ar.plus x y
noncomputable def Ar.unit : Nat → List Nat
  | 0 => [1]
  | i + 1 => 0 :: Ar.unit i
noncomputable def Ar.co : Ar → List Nat
  | .V i => 0 :: Ar.unit i
  | .N k => [k]
  | .P x y => Ar.plus x.co y.co
  | .L k x => x.co.map (k * ·)
  | .R k x => x.co.map (k * ·)
noncomputable def Ar.dot : List Nat → List Nat → Nat
  | [], _ => 0
  | _, [] => 0
  | a :: x, b :: y => a * b + Ar.dot x y
theorem Ar.dot_nil (c : List Nat) : Ar.dot c [] = 0 := by cases c <;> rfl
theorem Ar.dot_plus : ∀ (c x y : List Nat), Ar.dot c (Ar.plus x y) = Ar.dot c x + Ar.dot c y
  | c, [], y => by rw [Ar.dot_nil, Nat.zero_add]; rfl
  | c, a :: x, [] => by rw [Ar.dot_nil, Nat.add_zero]; rfl
  | [], a :: x, b :: y => rfl
  | k :: c, a :: x, b :: y => by
    show k * (a + b) + Ar.dot c (Ar.plus x y) = (k * a + Ar.dot c x) + (k * b + Ar.dot c y)
    rw [Ar.dot_plus c x y, Nat.mul_add, Nat.add_add_add_comm]
theorem Ar.dot_mul (k : Nat) : ∀ (c x : List Nat), Ar.dot c (x.map (k * ·)) = k * Ar.dot c x
  | [], x => by cases x <;> rfl
  | _ :: _, [] => rfl
  | j :: c, a :: x => by
    show j * (k * a) + Ar.dot c (x.map (k * ·)) = k * (j * a + Ar.dot c x)
    rw [Ar.dot_mul k c x, Nat.mul_add, Nat.mul_left_comm]
theorem Ar.dot_unit : ∀ (c : List Nat) (i : Nat), Ar.dot c (Ar.unit i) = Ar.at c i
  | [], i => by cases i <;> rfl
  | x :: c, 0 => by show x * 1 + Ar.dot c [] = x; rw [Ar.dot_nil]; simp
  | x :: c, i + 1 => by show x * 0 + Ar.dot c (Ar.unit i) = Ar.at c i; rw [Ar.dot_unit c i, Nat.mul_zero, Nat.zero_add]
theorem Ar.den_co (c : List Nat) : ∀ e : Ar, e.den c = Ar.dot (1 :: c) e.co
  | .V i => by show Ar.at c i = 1 * 0 + Ar.dot c (Ar.unit i); rw [Ar.dot_unit, Nat.mul_zero, Nat.zero_add]
  | .N k => by show k = 1 * k + Ar.dot c []; rw [Ar.dot_nil, Nat.one_mul]; rfl
  | .P x y => by show x.den c + y.den c = Ar.dot _ (Ar.plus x.co y.co); rw [Ar.dot_plus, Ar.den_co c x, Ar.den_co c y]
  | .L k x => by show k * x.den c = Ar.dot _ (x.co.map (k * ·)); rw [Ar.dot_mul, Ar.den_co c x]
  | .R k x => by show x.den c * k = Ar.dot _ (x.co.map (k * ·)); rw [Ar.dot_mul, Ar.den_co c x, Nat.mul_comm]
noncomputable def Ar.leq : List Nat → List Nat → Bool
  | [], _ => true
  | a :: x, [] => Nat.beq a 0 && Ar.leq x []
  | a :: x, b :: y => Nat.ble a b && Ar.leq x y
theorem Ar.leq_dot : ∀ (c x y : List Nat), Ar.leq x y = true → Ar.dot c x ≤ Ar.dot c y
  | c, [], y, _ => by rw [Ar.dot_nil]; exact Nat.zero_le _
  | [], a :: x, y, _ => Nat.zero_le _
  | k :: c, a :: x, [], h => by
    have h := Bool.and_eq_true_iff.mp h
    obtain rfl : a = 0 := Nat.eq_of_beq_eq_true h.1
    have := Ar.leq_dot c x [] h.2
    rw [Ar.dot_nil] at this ⊢
    show k * 0 + Ar.dot c x ≤ 0
    rw [Nat.mul_zero, Nat.zero_add]; exact this
  | k :: c, a :: x, b :: y, h => by
    have h := Bool.and_eq_true_iff.mp h
    exact Nat.add_le_add (Nat.mul_le_mul_left k (Nat.le_of_ble_eq_true h.1)) (Ar.leq_dot c x y h.2)
noncomputable def Ar.sum : List (Ar × Ar × Nat) → List Nat × List Nat
  | [] => ([], [])
  | (x, y, k) :: r => (Ar.plus (x.co.map (k * ·)) (Ar.sum r).1, Ar.plus (y.co.map (k * ·)) (Ar.sum r).2)
noncomputable def Ar.ok (hs : List (Ar × Ar × Nat)) (d : Nat) (g g' : Ar) : Bool :=
  Ar.leq (Ar.plus (g.co.map (d * ·)) (Ar.sum hs).2) (Ar.plus [d - 1] (Ar.plus (g'.co.map (d * ·)) (Ar.sum hs).1)) && Nat.blt 0 d
noncomputable def Ar.Hy (c : List Nat) : List (Ar × Ar × Nat) → Prop → Prop
  | [], G => G
  | (x, y, _) :: r, G => x.den c ≤ y.den c → Ar.Hy c r G
theorem Ar.sum_le (c : List Nat) (G : Prop) : ∀ (hs : List (Ar × Ar × Nat)), (Ar.dot (1 :: c) (Ar.sum hs).1 ≤ Ar.dot (1 :: c) (Ar.sum hs).2 → G) → Ar.Hy c hs G
  | [], h => h (Nat.le_refl _)
  | (x, y, k) :: r, h => fun hx => Ar.sum_le c G r fun hr => h (by
    show Ar.dot _ (Ar.plus _ _) ≤ Ar.dot _ (Ar.plus _ _)
    rw [Ar.dot_plus, Ar.dot_plus, Ar.dot_mul, Ar.dot_mul, ← Ar.den_co, ← Ar.den_co]
    exact Nat.add_le_add (Nat.mul_le_mul_left k hx) hr)
theorem Ar.go (c : List Nat) (hs : List (Ar × Ar × Nat)) (d : Nat) (g g' : Ar) (h : Ar.ok hs d g g' = true) : Ar.Hy c hs (g.den c ≤ g'.den c) := Ar.sum_le c _ hs fun hr => by
  have h := Bool.and_eq_true_iff.mp h
  have hl := Ar.leq_dot (1 :: c) _ _ h.1
  rw [Ar.dot_plus, Ar.dot_plus, Ar.dot_plus, Ar.dot_mul, Ar.dot_mul, ← Ar.den_co, ← Ar.den_co] at hl
  have e : Ar.dot (1 :: c) [d - 1] = d - 1 := by show 1 * (d - 1) + Ar.dot c [] = _; rw [Ar.dot_nil]; simp
  rw [e] at hl
  have hd : 0 < d := Nat.le_of_ble_eq_true h.2
  have h4 : d * g.den c < d * g'.den c + d := by
    refine Nat.lt_of_add_lt_add_right (n := Ar.dot (1 :: c) (Ar.sum hs).2) (Nat.lt_of_le_of_lt hl ?_)
    rw [← Nat.add_assoc, Nat.add_comm (d - 1)]
    exact Nat.add_lt_add_of_lt_of_le (Nat.add_lt_add_left (Nat.sub_lt hd Nat.zero_lt_one) _) hr
  exact Nat.le_of_lt_succ (Nat.lt_of_mul_lt_mul_left (a := d) h4)
theorem Ar.fal (h : (1 : Nat) ≤ 0) : False := Nat.not_succ_le_zero 0 h
theorem Ar.up (a b : Nat) : a ≤ a - b + b := Nat.le_trans (Nat.le_max_left a b) (Nat.le_of_eq (Nat.sub_add_eq_max a b).symm)
theorem Ar.dn {a b : Nat} (h : b ≤ a) : a - b + b ≤ a := Nat.le_of_eq (Nat.sub_add_cancel h)
theorem Ar.cl {a n : Nat} (h : a + 1 ≤ n) {z : Int} (e : (n : Int) = z) : (a : Int) < z := e ▸ Int.ofNat_lt.mpr h
theorem sub_c {α : Type} {a : α} {l l' : List α} (h : a ∈ l') (t : ∀ p ∈ l, p ∈ l') : ∀ p ∈ a :: l, p ∈ l' := List.forall_mem_cons.mpr ⟨h, t⟩
theorem sub_e {α : Type} {l' : List α} : ∀ p ∈ ([] : List α), p ∈ l' := fun _ h => nomatch h
end Mine
end
section
open PySem PySem.Calls PySem.W PyProof.Rows
namespace Mine
noncomputable def holder (c : Code) : Bool := match c with
  | .builtin id _ => Builtin.Bytes.decodersThatHold.contains id || ["bytearray.__contains__", "bytearray.__mod__", "bytearray.__rmod__", "_struct.pack_into.held", "bytearray.find.held"].contains id
  | _ => false
noncomputable def Good (Γ : PySem.Ctx) : Prop := holder Γ.code = false ∧ ∀ x ∈ Γ.below, holder x.1 = false

noncomputable def wpG {α : Type} (M : Model) (A : Around) (t : Sem α) (Q : α → Shared → Prop) (E : Value → Shared → Prop) (s : Shared) : Prop :=
  ∀ Γ p, Γ.In A → Good Γ → Sem.wp M Γ t (fun a _ s' => Q a s') (fun e _ s' => E e s') p s
noncomputable def codeG (M : Model) (A : Around) (c : Code) (R : Result → Shared → Prop) (s : Shared) : Prop :=
  ∀ Γ p, Γ.code = c → Γ.Below A → Good Γ → wpCode M Γ R p s
section
variable {α β : Type} {M : Model} {A : Around} {E E' : Value → Shared → Prop} {s : Shared}
theorem wpG_any {t : Sem α} {Q : α → Shared → Prop} (h : wpAny M A t Q E s) : wpG M A t Q E s := fun Γ p hΓ _ => h Γ p hΓ
theorem codeG_any {c : Code} {R : Result → Shared → Prop} (h : codeAny M A c R s) : codeG M A c R s := fun Γ p hc hΓ _ => h Γ p hc hΓ
theorem wpG_pure {a : α} {Q : α → Shared → Prop} (h : Q a s) : wpG M A (pure a) Q E s := wpG_any (wpAny_pure h)
theorem wpG_mono {t : Sem α} {Q Q' : α → Shared → Prop} (h : wpG M A t Q E s) (hQ : ∀ a s, Q a s → Q' a s) (hE : ∀ e s, E e s → E' e s) : wpG M A t Q' E' s :=
  fun Γ p hΓ g => Sem.wp_mono M Γ t (fun a _ s => hQ a s) (fun e _ s => hE e s) p s (h Γ p hΓ g)
theorem wpG_bind {m : Sem α} {f : α → Sem β} {Q : β → Shared → Prop} (h : wpG M A m (fun a s' => wpG M A (f a) Q E s') E s) : wpG M A (m >>= f) Q E s := fun Γ p hΓ g => by
  rw [Sem.wp_bind']
  exact Sem.wp_mono M Γ m (fun a p' s' h' => h' Γ p' hΓ g) (fun _ _ _ h' => h') p s (h Γ p hΓ g)
theorem wpG_then {m : Sem α} {f : α → Sem β} {Q : β → Shared → Prop} (h : wpAny M A m (fun a s' => wpG M A (f a) Q E s') E s) : wpG M A (m >>= f) Q E s := wpG_bind (wpG_any h)
theorem wpG_onRaise {m : Sem α} {k : Value → Sem Unit} {Q : α → Shared → Prop} (h : wpG M A m Q (fun e s' => wpG M A (k e) (fun _ s'' => E e s'') E s') s) : wpG M A (m.onRaise k) Q E s := fun Γ p hΓ g => by
  rw [Sem.wp_onRaise]
  exact Sem.wp_mono M Γ m (fun _ _ _ h' => h') (fun e p' s' h' => h' Γ p' hΓ g) p s (h Γ p hΓ g)
theorem wpG_holding {vs : List Value} {m : Sem α} {Q : α → Shared → Prop} (h : wpG M A m Q E s) : wpG M A (holding vs m) Q E s := fun Γ p hΓ g => by
  rw [Sem.wp_holding]; exact h Γ p hΓ g
theorem wpG_ite {c : Prop} [Decidable c] {a b : Sem α} {Q : α → Shared → Prop} (h1 : c → wpG M A a Q E s) (h2 : ¬ c → wpG M A b Q E s) : wpG M A (if c then a else b) Q E s := by
  split
  · exact h1 (by assumption)
  · exact h2 (by assumption)
theorem good_enter {Γ : PySem.Ctx} (g : Good Γ) (c : Code) (hd : Option Value) (p : Pos) (hc : holder c = false) : Good (Γ.enter c hd p) :=
  ⟨hc, fun x hx => by
    rcases List.mem_cons.mp hx with rfl | hx
    · exact g.1
    · exact g.2 x hx⟩
theorem wpG_run {c : Code} {h : Option Value} {Q : Flow → Shared → Prop} (hg : holder c = false)
    (hc : codeG M (A.mark h) c (fun r s' => match r with | .ok f => Q f s' | .error e => E e s') s) (hnb : h ≠ some byPass := by intro x; cases x) : wpG M A (run c h) Q E s :=
  fun Γ p hΓ g => by rw [Sem.wp_run]; exact hc _ p rfl (hΓ.enter c h p hnb) (good_enter g c h p hg)
theorem wpG_runValue {c : Code} {Q : Value → Shared → Prop} (hg : holder c = false)
    (hc : codeG M A c (fun r s' => match r with | .ok (.ret v) => Q v s' | .ok _ => False | .error e => E e s') s) : wpG M A (runValue c) Q E s :=
  fun Γ p hΓ g => by rw [Sem.wp_runValue]; exact hc _ p rfl (hΓ.enter c none p (by intro x; cases x)) (good_enter g c none p hg)
theorem wpG_call {f : Value} {pos : List Value} {kw : List (Str × Value)} {Q : Value → Shared → Prop}
    (hc : codeG M A (.call f ⟨pos, kw⟩) (fun r s' => match r with | .ok (.ret v) => Q v s' | .ok _ => False | .error e => E e s') s) : wpG M A (call f pos kw) Q E s := wpG_runValue rfl hc
theorem codeG_mono {c : Code} {R R' : Result → Shared → Prop} (h : codeG M A c R s) (hR : ∀ r s, R r s → R' r s) : codeG M A c R' s :=
  fun Γ p hc hΓ g => wpCode_mono hR (h Γ p hc hΓ g)
theorem codeG_of_tree {c : Code} {R : Result → Shared → Prop}
    (h : wpG M (A.under c) (M.den c) (fun fin s' => match fin with | .done f => R (.ok f) s' | .again c' => c'.quiet = true ∧ holder c' = false ∧ codeG M A c' R s')
      (fun e s' => R (.error e) s') s) : codeG M A c R s := fun Γ p hc hΓ g => by
  rw [wpCode_iff_wp, hc]
  refine Sem.wp_mono M Γ _ (fun fin p' s' h' => ?_) (fun _ _ _ h' => h') p s (h Γ p (hc ▸ hΓ.in) g)
  cases fin with
  | done f => exact h'
  | again c' => exact ⟨h'.1, h'.2.2 (Γ.goto c') p' rfl (hΓ.goto c') ⟨h'.2.1, g.2⟩⟩
theorem wpG_exported {v : Value} {Q : Bool → Shared → Prop} (h : Q false s) : wpG M A (Builtin.Bytes.exported v) Q E s := fun Γ p hΓ g => by
  have hall : ∀ x ∈ (Γ.code, p) :: Γ.below, holder x.1 = false := fun x hx => by
    rcases List.mem_cons.mp hx with rfl | hx
    · exact g.1
    · exact g.2 x hx
  delta Builtin.Bytes.exported
  rw [Sem.wp_bind']
  show Q (((Γ.code, p) :: Γ.below).any _) s
  rw [List.any_eq_false.mpr]
  · exact h
  · rintro ⟨c, q⟩ hx
    have hb := hall _ hx
    cases c with
    | builtin id args =>
      have ne : ∀ l : String, ["bytearray.__contains__", "bytearray.__mod__", "bytearray.__rmod__", "_struct.pack_into.held", "bytearray.find.held"].contains l = true → id ≠ l := fun l hl e => by
        have h2 := (Bool.or_eq_false_iff.mp hb).2
        rw [e, hl] at h2
        cases h2
      have h0 : Builtin.Bytes.decodersThatHold.contains id = false := (Bool.or_eq_false_iff.mp hb).1
      rw [Bool.not_eq_true]
      delta Builtin.Bytes.exported.match_1
      change dite (id = "bytearray.__contains__") _ _ = false
      rw [dif_neg (ne _ (by decide +kernel)), dif_neg (ne _ (by decide +kernel)), dif_neg (ne _ (by decide +kernel)), dif_neg (ne _ (by decide +kernel)), dif_neg (ne _ (by decide +kernel))]
      obtain ⟨pos, kw⟩ := args
      cases pos with
      | nil => rfl
      | cons a r => exact (congrArg (_ && ·) h0).trans (Bool.and_false _)
    | _ => exact Bool.false_ne_true
end
end Mine
end
section
open PySem PySem.W PyProof.Rows
namespace Mine
theorem caller_good : Good ⟨.builtin "claim.caller" {}, none, none, [], none⟩ := ⟨by decide +kernel, fun _ h => nomatch h⟩
theorem thread_G {prog : Program} {w : World} {t : Sem Fin} {s : Shared} {R : Result → Shared → Prop} {C : Prop} (hz : s.asleep)
    (h : wpG (model prog w) callerA t (fun fin s' => ∃ f, fin = .done f ∧ R (.ok f) s' ∧ AllBare s'.gens) (fun e s' => R (.error e) s' ∧ AllBare s'.gens) s)
    (k : ∀ n r u v, runN (denote table) prog w n s ⟨t, .builtin "claim.caller" {}, default, []⟩ = .halted (outcomeOf r) u → schedN (denote table) prog w n (.single s ⟨t, .builtin "claim.caller" {}, default, []⟩) = .halted (outcomeOf r) u → u.forget = v.forget → R r v → C) : C := by
  have c : Sem.wp (model prog w) ⟨.builtin "claim.caller" {}, none, none, [], none⟩ t (Sem.finPost (model prog w) ⟨.builtin "claim.caller" {}, none, none, [], none⟩ fun r s' => R r s' ∧ leftWithCleanup s'.gens = false)
      (fun e _ s' => R (.error e) s' ∧ leftWithCleanup s'.gens = false) default s := by
    refine Sem.wp_mono _ _ _ (fun fin _ s' q => ?_) (fun e _ s' q => ⟨q.1, leftWithCleanup_false_of_bare q.2⟩) _ _ (h _ default caller_in caller_good)
    obtain ⟨f, rfl, q1, q2⟩ := q
    exact ⟨q1, leftWithCleanup_false_of_bare q2⟩
  obtain ⟨n, r, v, u, hs, hn, e, q⟩ := wp_halts_full (M := model prog w) hz c
  exact k n r u v hn hs e q
noncomputable abbrev WalkG (q : Program) (loose : List Str) (XP : (Str → Option Value) → Heap → Prop) (YP : World → Heap → Prop) (r : RowW) (d : DefRec) (kwd : List (Str × Expr)) : Prop :=
  ∀ (w : World) (s₀ s₁ : Shared) (mg mb : Str → Option Value), Ground q loose r.records XP w s₀ mg mb s₁.heap → YP w s₁.heap → ∀ (a : Addr) (o : Obj) (pm cd doc dV kV : Value), s₁.heap.get? a = some o →
    o.data = .func { Calls.docDef d.name d.params d.body d.scope pm cd doc with defaults := dV, kwdefaults := kV } → s₁.heap.CodeRec cd d.name → Dflts mg s₁.heap d.params kwd dV kV → mg d.name = some (.ref a) → s₁.gens = #[] →
    ∀ (args : List WData) (vals : List Value) (as : List Addr), r.claim.pre args = true → WData.layableAll args = true → ReadsAllW r.records (classAt s₀.heap) s₁.heap vals args as → WellAll w.params s₁.heap vals args → (∀ a ∈ as, (a == sysModules) = false) →
      wpG (model r.prog w) callerA (call (.ref a) vals) (fun v s' => GoodWG r.claim (classAt s₀.heap) (ExcName.means s₀.heap) args s₁ (.ok (.ret v)) s')
        (fun e s' => GoodWG r.claim (classAt s₀.heap) (ExcName.means s₀.heap) args s₁ (.error e) s') s₁
section
variable {r : OpenRow} {q : Program} {loose : List Str} {Xt : Shared → Bool} {XP : (Str → Option Value) → Heap → Prop} {α : Type} {Yf : Shared → α} {Ya : World → α} {YP : World → Heap → Prop} {d : DefRec} {kwd : List (Str × Expr)} {N : Nat}
noncomputable def EndR (r : OpenRow) (args : List WData) (vs : List Value) (s s₁ : Shared) (res : Result) (v : Shared) : Prop := r.claim.Ends s args vs s₁ res v ∧ v.os = s.os ∧ (r.writes = true → namesKept r.prog r.keeps s.heap v.heap ∧ ∀ x ∈ r.records, ∀ a, classAt s.heap x.1 = some a → recordClass v.heap a x.1 (x.2.map (·.1)) = true)
theorem cps {G : Prop} (h : ∀ R : Prop, (G → R) → R) : G := h G id
theorem PySem.W.holds_open (left : LeftO r.prog q loose Xt Yf Ya N) (sees : ∀ w s, Yf s = Ya w → YP w s.heap) (seesK : ∀ w h h', YP w h → (∀ b o, h.get? b = some o → h'.get? b = some o) → YP w h')
    (top : ∀ s, Xt s = true → XP (s.heap.nsMap mainGlobals) s.heap) (topK : ∀ mg h h', XP mg h → (∀ b o, h.get? b = some o → h'.get? b = some o) → XP mg h')
    (isDef : defOf q r.name = some (d, kwd)) (theDef : r.prog.theDef r.name = some (d.params, d.body, d.scope)) (kws : kwWritten? d.params.kwonlyargs d.params.kw_defaults = some kwd) (recs : ∀ s, Xt s = true → RecFacts r.records s.heap)
    (noWrites : (!r.writes || r.records.isEmpty) = true) (said : r.wellSaid = true) (ok : (chainsOk q && opensWell r.prog && (frees r.toRowW && r.within.isEmpty)) = true) (bare : r.prog.bare) (wit : r.toRowW.promised)
    (walk : WalkG q loose XP YP r.toRowW d kwd) : r.Holds := by
  simp only [Bool.and_eq_true] at ok
  obtain ⟨⟨chains, opens⟩, free, within⟩ := ok
  obtain ⟨same, under, after, apart, makers⟩ := frees_parts free
  have ident := ident_freeW under after apart
  have within := List.isEmpty_iff.mp within
  have behind := fun w => left.behind (XP := fun mg h => XP mg h ∧ RecFacts r.records h) (fun s hs => ⟨top s hs, recs s hs⟩) chains w
  refine ⟨said, wit, ⟨bare, opens, by show r.makers.map _ = []; rw [makers]; rfl⟩, wit.witness, fun w => ⟨(behind w).1, fun s' hs' => ?_⟩⟩
  refine cps fun _ k => ?_
  obtain ⟨s₀, fence, gens0, s, ran, asleep, gens, isNs, G0, y⟩ := (behind w).2 s' hs'
  obtain ⟨X0, R0⟩ := G0.X
  have G1 : Ground q loose [] XP w s (s.heap.nsMap mainGlobals) (s.heap.nsMap builtinsNs) s.heap := ⟨G0.T, G0.B, G0.D, G0.TE, G0.TD, G0.W, X0, G0.cls, G0.has, G0.apart, G0.once, G0.K⟩
  have gens : s.gens = #[] := Array.eq_empty_of_size_eq_zero (beq_iff_eq.mp gens)
  refine k ⟨s₀, fence, gens0, s, ran, fun n hn => ?_, R0.1, R0.2.1, fun args pre lays ord hord => ?_⟩
  · have : n = r.name := by
      revert hn
      split <;> simp
    rw [this]
    exact pinned_of_view isNs G1 isDef theDef kws
  refine cps fun _ k => ?_
  have GR : Ground q loose r.records XP w s (s.heap.nsMap mainGlobals) (s.heap.nsMap builtinsNs) s.heap := R0.ground G1
  obtain ⟨⟨vs, s₁⟩, laid⟩ := Option.isSome_iff_exists.mp (layAllW_isSome (P := w.params) (ord := ord) GR.has args r.args s (pre_splitW pre).1)
  have keeps := layAllW_keeps _ _ _ laid
  have rest := layAllW_rest _ _ _ laid
  obtain ⟨as, reads, ins, old⟩ := reads_layAllW hord _ _ _ laid lays s₁.heap (fun _ _ e => e)
  have L : Laid r.records w s s₁ args vs as := ⟨⟨ord, hord, laid⟩, reads, ins, old, keeps, rest.1.trans gens, rest.2.2.1⟩
  have Gd := GR.keeps topK keeps
  obtain ⟨a, o, pm, cd, doc, dV, kV, f1, f2, f3, f4, f5⟩ := Gd.fn isDef
  have W := walk w s s₁ _ _ Gd (seesK _ _ _ (sees w s y) keeps) a o pm cd doc dV kV f2 f3 f4 f5 (defOf_name isDef ▸ f1) L.gens args vs as pre lays L.reads L.well (L.low GR.low)
  have fin : ∀ res v, GoodWG r.claim (classAt s.heap) (ExcName.means s.heap) args s₁ res v → EndR r args vs s s₁ res v ∧ AllBare v.gens := fun res v g => by
    have z := g.laid (c := r.claim) same within ident L
    exact ⟨⟨z.1, z.2.1, fun hw => ⟨namesKept_of ran isNs r.keeps keeps g.2.1.old, noTable noWrites hw⟩⟩, z.2.2⟩
  refine thread_G (prog := r.prog) (w := w) (s := s₁) (R := EndR r args vs s s₁)
    (t := do match ← nsGet mainNs r.name with
      | some f => do ret (← call f vs)
      | none => unsupported "claim.caller:no-such-global") (Shared.asleep_of_life rest.2.2.2 asleep) (by
    refine wpG_then (wpAny_nsGet Gd.T.g ?_)
    rw [f1]
    refine wpG_bind (wpG_mono W (fun x s' g => wpG_pure ?_) fun e s' g => fin _ _ g)
    have z := fin _ _ g
    exact ⟨_, rfl, z⟩) fun n res u v run1 sched forget hR => ?_
  have os := hR.2.1
  have kept := hR.2.2
  obtain ⟨e1, -, -, e2, -⟩ := Shared.forget_eq forget
  have ends := hR.1.congr e1
  rw [← e1] at kept
  rw [← e2] at os
  have life : u.heap.life = s.heap.life := (runN_life _ _ _ run1).trans rest.2.2.2
  refine k ⟨vs, s₁, laid, n, _, u, sched, ?_, (fun _ i x hx => by rw [gens] at hx; simp at hx), kept, by rw [life], Shared.rest_eq os⟩
  rcases ends with ⟨x, rfl, b1, b2, b3, b4, b5⟩ | ⟨e, ob, cls, rfl, b1, b2, b3, b4, b5⟩
  · exact .inl ⟨x, rfl, b1, b2, b3, fun b o y _ => b4 b o y, b5⟩
  · exact .inr ⟨e, ob, cls, rfl, b1, b2, b3, b4, fun b o y _ => b5 b o y⟩
end

noncomputable abbrev viewQ : Program := PySem.W.view PySem.Challenge.pw_ik0191_01 [0, 2, 4, 5, 8, 10, 12, 13, 15, 17, 19, 20, 21, 22, 23, 24, 25, 27, 28, 29, 30, 31, 32, 33, 34, 35]
theorem said_ok : OpenLaw.wellSaid PySem.Challenge.rw_ik0191_01 = true := by kernel_rfl
local macro_rules | `(tactic| o_law) => `(tactic| refine holds_law said_ok fun said => ?_)
theorem left_of_boot {p q : Program} {loose : List Str} {Xt : Shared → Bool} {α : Type} {Yf : Shared → α} {Ya : World → α} {N : Nat} (e : opening p = plainProg p.main.scope.names) (hN : Nat.ble 600 N = true) (f : ∀ s, fenceModules? p s = some s)
    (h : ∀ (w : World) (os : OsState), (topFrom treeTable p w N ⟨boot_heap w.params, Array.mk [], boot_drawn, boot_toks, os⟩).map (fun s => (openSeen q loose (importedModules p.main.body) Xt true s, Yf s)) = some (openGood q loose, Ya w)) : LeftO p q loose Xt Yf Ya N := fun w => by
  obtain ⟨⟨h0, gs, d, k, os⟩, e1, e2⟩ := Option.map_eq_some_iff.mp (boot_open e hN f w)
  simp only [Prod.mk.injEq] at e2
  obtain ⟨rfl, rfl, rfl, rfl⟩ := e2
  unfold openEnds
  rw [e1]
  exact h w os
theorem open_ok : opening PySem.Challenge.pw_ik0191_01 = plainProg (PySem.Challenge.pw_ik0191_01).main.scope.names := by kernel_rfl
theorem fence_ok : ∀ s, fenceModules? PySem.Challenge.pw_ik0191_01 s = some s := by intro s; kernel_rfl
noncomputable abbrev looseQ : List Str := ["_initial_missing", "reduce"]
theorem head_for {d : DefRec} {kwd : List (Str × Expr)} (H : Hook)
    (left : ∀ (w : World) (os : OsState), (topFrom treeTable PySem.Challenge.pw_ik0191_01 w 2820 ⟨boot_heap w.params, Array.mk [], boot_drawn, boot_toks, os⟩).map (fun s => (openSeen viewQ looseQ (importedModules (PySem.Challenge.pw_ik0191_01).main.body) (fun s => xlAt viewQ [] s && recOk PySem.Challenge.rw_ik0191_01.row.records s) true s, H.obs s)) = some (openGood viewQ looseQ, H.val w))
    (isDef : defOf viewQ PySem.Challenge.rw_ik0191_01.row.name = some (d, kwd)) (theDef : (PySem.Challenge.rw_ik0191_01.row.prog).theDef PySem.Challenge.rw_ik0191_01.row.name = some (d.params, d.body, d.scope)) (kws : kwWritten? d.params.kwonlyargs d.params.kw_defaults = some kwd)
    (wit : PySem.Challenge.rw_ik0191_01.row.toRowW.promised) (walk : WalkG viewQ looseQ (XL viewQ []) H.says PySem.Challenge.rw_ik0191_01.row.toRowW d kwd) : PySem.Challenge.rw_ik0191_01.row.Holds :=
  PySem.W.holds_open (q := viewQ) (loose := looseQ) (Xt := fun s => xlAt viewQ [] s && recOk PySem.Challenge.rw_ik0191_01.row.records s) (XP := XL viewQ []) (Yf := H.obs) (Ya := H.val) (YP := H.says) (N := 2820)
    (left_of_boot (p := PySem.Challenge.pw_ik0191_01) open_ok rfl fence_ok left) H.of H.keeps (fun s e => xl_of s (Bool.and_eq_true_iff.mp e).1) XL.keeps isDef theDef kws (fun s e => recFacts_of (Bool.and_eq_true_iff.mp e).2) (by rfl) (row_said said_ok) (by decide +kernel) ⟨rfl, rfl, rfl, rfl, rfl, by decide +kernel⟩ wit walk
set_option hygiene false in
local macro_rules | `(tactic| o_head $H) => `(tactic| refine head_for $H (by intro w os; kernel_rfl) (by rfl) (by rfl) (by rfl) ?hw ?hc)
set_option maxHeartbeats 8000000 in
open_top hd for PySem.Challenge.rw_ik0191_01
end Mine
end
/-- the head has set the walker going for tops; the walks of the defs want it off -/
theorem Mine.walk_off : True := by
  w_top off
  trivial
section
open PySem PySem.Spec PySem.Calls PySem.W PyProof.Rows
namespace Mine

noncomputable def Spec (p : Program) (loose : List Str) (w : World) (mean : ExcName → Option Value) (mg mb : Str → Option Value) (f : Addr) (dD dU : Nat) (args : List Value) (need : List (Addr × Obj)) (Ret : (Value → List (Addr × Obj) → Prop) → Prop) : Prop :=
  ∀ (dp un : Nat) (gd : Option (List Code)) (cn : Str) (cs : Scope) (a : Addr) (ccd : Value) (cl : List (Str × Addr)) (outer : List Env) (A₀ : Around) (base h₀ : Heap) (L : Addr) (m : Str → Option Value) (news : List (Addr × Obj)) (s : Shared)
    (Q E : Value → Shared → Prop),
    Below A₀ base outer h₀ → Fr h₀ L s.heap m → (Mine.hd.heap_1 w.params).In h₀ → News h₀ L s.heap news → Top p loose mean mg mb h₀ → cs.kind = .function → (∀ q ∈ need, q ∈ news) → dp + dD < recursionLimit → un + dU < cLine →
    Ret (fun r tl => ∀ h' tk', Fr h₀ L h' m → News h₀ L h' (tl ++ news) → Q r { s with heap := h', toks := tk' }) →
    wpAny (model PySem.Challenge.rw_ik0191_01.row.prog w) (ktrTop dp un gd cn cs L a ccd cl outer) (call (.ref f) args) Q E s

theorem spec_use {p : Program} {loose : List Str} {w : World} {mean : ExcName → Option Value} {mg mb : Str → Option Value} {f : Addr} {dD dU : Nat} {args : List Value} {need : List (Addr × Obj)} {Ret : (Value → List (Addr × Obj) → Prop) → Prop}
    {dp un : Nat} {gd : Option (List Code)} {cn : Str} {cs : Scope} {a : Addr} {ccd : Value} {cl : List (Str × Addr)} {outer : List Env} {A₀ : Around} {base h₀ : Heap} {L : Addr} {m : Str → Option Value} {news : List (Addr × Obj)} {s : Shared} {Q E : Value → Shared → Prop}
    (C : Spec p loose w mean mg mb f dD dU args need Ret) (B : Below A₀ base outer h₀) (F : Fr h₀ L s.heap m) (X : (Mine.hd.heap_1 w.params).In h₀) (N : News h₀ L s.heap news) (T : Top p loose mean mg mb h₀) (hk : cs.kind = .function) (hn : ∀ q ∈ need, q ∈ news)
    (hd : dp + dD < recursionLimit) (hu : un + dU < cLine)
    (ret : Ret (fun r tl => ∀ h' tk', Fr h₀ L h' m → News h₀ L h' (tl ++ news) → Q r { s with heap := h', toks := tk' })) :
    wpAny (model PySem.Challenge.rw_ik0191_01.row.prog w) (ktrTop dp un gd cn cs L a ccd cl outer) (call (.ref f) args) Q E s :=
  C _ _ _ _ _ _ _ _ _ _ _ _ _ _ _ _ _ _ B F X N T hk hn hd hu ret
noncomputable abbrev RStr (x : Str) : (Value → List (Addr × Obj) → Prop) → Prop := fun P => ∀ t, P (.str x t) []
noncomputable abbrev RBytes (x : Array UInt8) : (Value → List (Addr × Obj) → Prop) → Prop := fun P => ∀ t, P (.bytes x t) []
noncomputable abbrev RBool (b : Bool) : (Value → List (Addr × Obj) → Prop) → Prop := fun P => P (.bool b) []
noncomputable abbrev RInt (i : Int) : (Value → List (Addr × Obj) → Prop) → Prop := fun P => ∀ t, P (.int i t) []
end Mine
namespace Mine
section
variable {h₀ h' : Heap} {L : Addr} {m : Str → Option Value} {news : List (Addr × Obj)} {s : Shared} {Q : Value → Shared → Prop}
theorem ret_str {x y : Str} {t : Tok} {tk' : Nat} (hret : RStr x (fun r tl => ∀ h' tk', Fr h₀ L h' m → News h₀ L h' (tl ++ news) → Q r { s with heap := h', toks := tk' })) (e : y = x) (F : Fr h₀ L h' m) (N : News h₀ L h' news) :
    Q (.str y t) { s with heap := h', toks := tk' } := by subst e; exact hret t h' tk' F N
theorem ret_bytes {x y : Array UInt8} {t : Tok} {tk' : Nat} (hret : RBytes x (fun r tl => ∀ h' tk', Fr h₀ L h' m → News h₀ L h' (tl ++ news) → Q r { s with heap := h', toks := tk' })) (e : y = x) (F : Fr h₀ L h' m) (N : News h₀ L h' news) :
    Q (.bytes y t) { s with heap := h', toks := tk' } := by subst e; exact hret t h' tk' F N
theorem ret_int {x y : Int} {t : Tok} {tk' : Nat} (hret : RInt x (fun r tl => ∀ h' tk', Fr h₀ L h' m → News h₀ L h' (tl ++ news) → Q r { s with heap := h', toks := tk' })) (e : y = x) (F : Fr h₀ L h' m) (N : News h₀ L h' news) :
    Q (.int y t) { s with heap := h', toks := tk' } := by subst e; exact hret t h' tk' F N
theorem ret_bool {x y : Bool} {tk' : Nat} (hret : RBool x (fun r tl => ∀ h' tk', Fr h₀ L h' m → News h₀ L h' (tl ++ news) → Q r { s with heap := h', toks := tk' })) (e : y = x) (F : Fr h₀ L h' m) (N : News h₀ L h' news) :
    Q (.bool y) { s with heap := h', toks := tk' } := by subst e; exact hret h' tk' F N
end
end Mine
theorem Mine.nt {b : Bool} (h : b = false) : ¬ b = true := by rw [h]; exact Bool.false_ne_true
@[irreducible] noncomputable def Mine.Halt (P : Prop) : Prop := P
theorem Mine.Halt.out {P : Prop} (h : Mine.Halt P) : P := by unfold Mine.Halt at h; exact h
theorem Mine.Halt.go {P : Prop} (h : P) : Mine.Halt P := by unfold Mine.Halt; exact h
end
section
open PySem PySem.Spec PySem.Calls PySem.W PyProof.Rows
namespace Mine
theorem kind_isn : builtinKind "issubclass.nested" = none := by decide +kernel
theorem plain_isn : plainId "issubclass.nested" = true := by decide +kernel
theorem args_isn (a b c : Value) : argsOk "issubclass.nested" ⟨[a, b, c], []⟩ := by unfold argsOk; kernel_rfl

theorem issub_inner {prog : Program} {w : World} {A : Around} {E : Value → Shared → Prop} {s : Shared} {tk : Tok} {dep : Int} {Q : Fin → Shared → Prop} (hq : Q (.done (.ret (.bool true))) s) :
    wpAny (model prog w) A (Builtin.«issubclass.nested» ⟨[.type "str", .type "str", .int dep tk], []⟩) Q E s := by
  have f1 := F.sub_str_str
  have f2 := F.isi_meta_str
  repeat (any_goals (first | assumption | (rw [if_pos rfl]) | (rw [f1]) | wp_step))
theorem issub_tuple {prog : Program} {w : World} {A : Around} {E : Value → Shared → Prop} {s : Shared} {tk : Tok} {tp : Addr} {cs cs' : List Value} {Q : Fin → Shared → Prop} (hc : cs = .type "str" :: cs')
    (htp : s.heap.get? tp = some { cls := .type "tuple", data := .seq cs.toArray }) (hq : ∀ tk', Q (.done (.ret (.bool true))) { s with toks := tk' }) :
    wpAny (model prog w) A (Builtin.«issubclass.nested» ⟨[.type "str", .ref tp, .int 0 tk], []⟩) Q E s := by
  obtain ⟨h, g, d, t, os⟩ := s
  have hT2 : (⟨h, g, d, t, os⟩ : Shared).TypeIs (.ref tp) "tuple" := ⟨_, htp, rfl⟩
  have f1 := F.isi_sub_tuple
  repeat (any_goals (first | assumption | wp_step))
  refine wpAny_arrayLoop ?_
  simp only [Option.getD_some, List.toList_toArray]
  subst hc
  rw [List.forIn_cons]
  refine wpAny_bind (wpAny_bind (call_function_meets kind_isn plain_isn F.entry_issubclass_nested (args_isn _ _ _) (S := fun _ R s => R (.ok (.ret (.bool true))) s) (fun prog w A R s hs => issub_inner hs) ?_))
  show wpAny _ _ (truthy (.bool true) >>= _) _ _ _
  refine wpAny_bind (m := truthy (.bool true)) (wpAny_pure ?_)
  refine wpAny_bind (wpAny_pure (wpAny_pure (wpAny_pure ?_)))
  repeat (any_goals (first | assumption | wp_step))
  exact hq _
theorem issub_call {prog : Program} {w : World} {A : Around} {E : Value → Shared → Prop} {s : Shared} {tp : Addr} {cs : List Value} {Q : Value → Shared → Prop}
    (htp : s.heap.get? tp = some { cls := .type "tuple", data := .seq (.type "str" :: cs).toArray }) (hq : ∀ tk', Q (.bool true) { s with toks := tk' }) :
    wpAny (model prog w) A (call (.builtin "issubclass") [.type "str", .ref tp]) Q E s :=
  call_issubclass (S := fun _ R s => s.heap.get? tp = some { cls := .type "tuple", data := .seq (.type "str" :: cs).toArray } ∧ ∀ tk', R (.ok (.ret (.bool true))) { s with toks := tk' })
    (fun prog w A R s hs => issubclass_outer (issub_tuple rfl hs.1 hs.2)) ⟨htp, hq⟩
end Mine
end
section
open PySem PySem.Spec PySem.Calls PySem.W PyProof.Rows
namespace Mine
section
variable {prog : Program} {w : World} {A : Around} {E : Value → Shared → Prop} {s : Shared} {env : Env} {h₀ : Heap} {x : Str} {body : List Stmt} {Q : Flow → Shared → Prop}
noncomputable abbrev OneName (x y : Str) (m₀ : Str → Option Value) (news : List (Addr × Obj)) (V : Nat → Tok → Value) (i : Nat) (m' : Str → Option Value) (nx : List (Addr × Obj)) : Prop :=
  nx = news ∧ (∃ t', m' y = some (V i t')) ∧ ∀ z, z ≠ x → z ≠ y → m' z = m₀ z

theorem done_form {x y : Str} {m₁ m₀ : Str → Option Value} {u : Value} (ha : m₁ y = some u) (hm : ∀ z, z ≠ x → z ≠ y → m₁ z = m₀ z) (hyx : y ≠ x) :
    m₁ = fun z => if z = x then m₁ x else if z = y then some u else m₀ z := by
  funext z
  by_cases h1 : z = x
  · subst h1; simp
  · rw [if_neg h1]
    by_cases h2 : z = y
    · subst h2; simp [ha]
    · rw [if_neg h2]; exact hm z h1 h2

theorem tup_acc {D : Addr} {items : Array Value} {n : Nat} {m₀ : Str → Option Value} {news : List (Addr × Obj)} {y : Str} {t₀ : Tok} (V : Nat → Tok → Value)
    (hh : A.handled = none) (F : Fr h₀ env.locals s.heap m₀) (N : News h₀ env.locals s.heap ((D, { cls := .type "tuple", data := .seq items n }) :: news)) (hlt : ∀ p ∈ news, p.1 < D) (hyx : y ≠ x) (hy : m₀ y = some (V 0 t₀))
    (turn : ∀ i v t h tk own, items[i]? = some v → Fr h₀ env.locals h (fun z => if z = x then some v else if z = y then some (V i t) else m₀ z) → News h₀ env.locals h (news ++ own) →
      wpAny (model prog w) A (execs body env) (InvPostN h₀ env.locals (OneName x y m₀ news V (i + 1)) own (news.map (·.1)) { s with heap := h, toks := tk } Q) E { s with heap := h, toks := tk })
    (done : ∀ (u : Option Value) t h tk, Fr h₀ env.locals h (fun z => if z = x then u else if z = y then some (V items.size t) else m₀ z) → News h₀ env.locals h news → Q .next { s with heap := h, toks := tk }) :
    wpAny (model prog w) A (pyIter (.ref D)) (fun it s₂ => LoopAtV prog w A h₀ env x body Q E it s₂) E s := by
  have hD := (N _ (.head _)).1
  have hT : s.heap.IsTuple D items := ⟨_, hD, rfl, n, rfl⟩
  have hDlt : D < s.heap.objs.size := Heap.lt_size hD
  refine wpAny_pyIter_tuple hT ?_
  refine loop_invN (fun i m nx => OneName x y m₀ news V i m nx) (Walks.tuple hh s.heap.objs.size D (Nat.ne_of_lt hDlt) items) ?_ ?_ ?_ ?_ ⟨⟨_, Heap.get?_push_size _ rfl, rfl, rfl⟩, ⟨_, Heap.get?_push_of_some _ hD, rfl, n, rfl⟩⟩ (F.push _)
    (fun p hp => ⟨Heap.get?_push_of_some _ (N p (.tail _ hp)).1, (N p (.tail _ hp)).2⟩) ⟨rfl, ⟨t₀, hy⟩, fun _ _ _ => rfl⟩ ?_ ?_
  · intro hm
    rcases List.mem_cons.mp hm with e | hm
    · exact absurd F.ns.lt (e ▸ Nat.lt_irrefl _)
    · exact (N _ (.head _)).2.1 (List.mem_singleton.mp hm).symm
  · intro b hb
    rw [List.mem_singleton.mp hb]
    exact next_is_new F
  · intro p hp hI
    exact absurd (Heap.lt_size (N p (.tail _ hp)).1) ((List.mem_singleton.mp hI) ▸ Nat.lt_irrefl _)
  · intro q hq hm
    rcases List.mem_cons.mp hm with e | hm
    · exact absurd (Heap.lt_size (N q (.tail _ hq)).1) (e ▸ Nat.lt_irrefl _)
    · exact absurd (hlt q hq) ((List.mem_singleton.mp hm) ▸ Nat.lt_irrefl _)
  · rintro i v m₁ news₁ h tk own _ hP _ _ ⟨rfl, ⟨t, ha⟩, hm⟩ F₁ N₁
    rw [map_one ha hm] at F₁
    exact turn i v t h tk own hP F₁ N₁
  · rintro m₁ news₁ h tk ⟨rfl, ⟨t, ha⟩, hm⟩ F₁ N₁
    rw [done_form ha hm hyx] at F₁
    exact done (m₁ x) t h tk F₁ N₁

theorem list_acc {l : Addr} {vs : List Value} {nn : Nat} {m₀ : Str → Option Value} {news : List (Addr × Obj)} {y : Str} {t₀ : Tok} (V : Nat → Tok → Value)
    (hh : A.handled = none) (hl : (l, listOf vs.toArray nn) ∈ news) (F : Fr h₀ env.locals s.heap m₀) (N : News h₀ env.locals s.heap news) (hyx : y ≠ x) (hy : m₀ y = some (V 0 t₀))
    (turn : ∀ i v t h tk own, vs[i]? = some v → OwnOff own (news.map (·.1)) → Fr h₀ env.locals h (fun z => if z = x then some v else if z = y then some (V i t) else m₀ z) → News h₀ env.locals h (news ++ own) →
      wpAny (model prog w) A (execs body env) (InvPostG h₀ env.locals (fun m' nx => (l, listOf vs.toArray nn) ∈ nx ∧ OneName x y m₀ news V (i + 1) m' nx) own { s with heap := h, toks := tk } Q) E { s with heap := h, toks := tk })
    (done : ∀ (u : Option Value) t h tk, Fr h₀ env.locals h (fun z => if z = x then u else if z = y then some (V vs.length t) else m₀ z) → News h₀ env.locals h news → Q .next { s with heap := h, toks := tk }) :
    wpAny (model prog w) A (pyIter (.ref l)) (fun it s₂ => LoopAtV prog w A h₀ env x body Q E it s₂) E s := by
  refine kdl_iter (fun i m nx => OneName x y m₀ news V i m nx) hh hl F N ⟨rfl, ⟨t₀, hy⟩, fun _ _ _ => rfl⟩ ?_ ?_
  · rintro i v m₁ news₁ h tk own hv hown _ ⟨rfl, ⟨t, ha⟩, hm⟩ F₁ N₁
    rw [map_one ha hm] at F₁
    exact turn i v t h tk own hv hown F₁ N₁
  · rintro m₁ news₁ h tk ⟨rfl, ⟨t, ha⟩, hm⟩ F₁ N₁
    rw [done_form ha hm hyx] at F₁
    exact done (m₁ x) t h tk F₁ N₁
theorem oneN {L : Addr} {m' m₀ : Str → Option Value} {own news : List (Addr × Obj)} {s₁ : Shared} {h' : Heap} {tk i : Nat} {x y : Str} {V : Nat → Tok → Value} (F : Fr h₀ L h' m') (N : News h₀ L h' (news ++ own))
    (hv : ∃ t, m' y = some (V (i + 1) t)) (hm : ∀ z, z ≠ x → z ≠ y → m' z = m₀ z) : InvEndN h₀ L (OneName x y m₀ news V (i + 1)) own (news.map (·.1)) s₁ { s₁ with heap := h', toks := tk } :=
  InvEndN.intro (nx := news) F N ⟨rfl, hv, hm⟩ rfl (fun p hp => List.mem_append.mpr (.inl hp)) fun p hp => List.mem_append.mpr (.inr hp)
theorem oneG {L l : Addr} {vs : List Value} {nn : Nat} {m' m₀ : Str → Option Value} {own news : List (Addr × Obj)} {s₁ : Shared} {h' : Heap} {tk i : Nat} {x y : Str} {V : Nat → Tok → Value} (hl : (l, listOf vs.toArray nn) ∈ news) (ho : OwnOff own (news.map (·.1))) (F : Fr h₀ L h' m') (N : News h₀ L h' (news ++ own))
    (hv : ∃ t, m' y = some (V (i + 1) t)) (hm : ∀ z, z ≠ x → z ≠ y → m' z = m₀ z) : InvEndG h₀ L (fun m' nx => (l, listOf vs.toArray nn) ∈ nx ∧ OneName x y m₀ news V (i + 1) m' nx) own s₁ { s₁ with heap := h', toks := tk } :=
  InvEndG.intro (nx := news) F N ⟨hl, rfl, hv, hm⟩ ho (fun p hp => List.mem_append.mpr (.inl hp)) fun p hp => List.mem_append.mpr (.inr hp)
end
end Mine
end
section
open PySem PySem.Spec PySem.Calls PySem.W PyProof.Rows
namespace Mine
section
variable {prog : Program} {w : World} {A : Around} {E : Value → Shared → Prop} {s : Shared} {env : Env} {h₀ : Heap} {x : Str} {body : List Stmt} {Q : Flow → Shared → Prop}
noncomputable abbrev CellJ (x : Str) (D : Addr) (rest : List (Addr × Obj)) (m₀ : Str → Option Value) (O : Nat → Obj → Prop) (i : Nat) (m' : Str → Option Value) (nx : List (Addr × Obj)) : Prop :=
  (∃ o, nx = (D, o) :: rest ∧ O i o) ∧ ∀ z, z ≠ x → m' z = m₀ z
theorem form1 {x : Str} {m₁ m₀ : Str → Option Value} (hm : ∀ z, z ≠ x → m₁ z = m₀ z) : m₁ = fun z => if z = x then m₁ x else m₀ z := by
  funext z
  by_cases h1 : z = x
  · subst h1; simp
  · rw [if_neg h1]; exact hm z h1
theorem list_cell {l D : Addr} {vs : List Value} {nn : Nat} {m₀ : Str → Option Value} {rest : List (Addr × Obj)} {o₀ : Obj} (O : Nat → Obj → Prop)
    (hh : A.handled = none) (hl : (l, listOf vs.toArray nn) ∈ rest) (F : Fr h₀ env.locals s.heap m₀) (N : News h₀ env.locals s.heap ((D, o₀) :: rest)) (h0 : O 0 o₀)
    (turn : ∀ i v o h tk own, vs[i]? = some v → OwnOff own (D :: rest.map (·.1)) → O i o → Fr h₀ env.locals h (fun z => if z = x then some v else m₀ z) → News h₀ env.locals h ((D, o) :: (rest ++ own)) →
      wpAny (model prog w) A (execs body env) (InvPostG h₀ env.locals (fun m' nx => (l, listOf vs.toArray nn) ∈ nx ∧ CellJ x D rest m₀ O (i + 1) m' nx) own { s with heap := h, toks := tk } Q) E { s with heap := h, toks := tk })
    (done : ∀ (u : Option Value) o h tk, O vs.length o → Fr h₀ env.locals h (fun z => if z = x then u else m₀ z) → News h₀ env.locals h ((D, o) :: rest) → Q .next { s with heap := h, toks := tk }) :
    wpAny (model prog w) A (pyIter (.ref l)) (fun it s₂ => LoopAtV prog w A h₀ env x body Q E it s₂) E s := by
  refine kdl_iter (fun i m nx => CellJ x D rest m₀ O i m nx) hh (.tail _ hl) F N ⟨⟨o₀, rfl, h0⟩, fun _ _ => rfl⟩ ?_ ?_
  · rintro i v m₁ news₁ h tk own hv hown _ ⟨⟨o, rfl, ho⟩, hm⟩ F₁ N₁
    have e : (fun y => if y = x then some v else m₁ y) = fun z => if z = x then some v else m₀ z := by
      funext z
      by_cases h1 : z = x
      · simp [h1]
      · simp only [if_neg h1]; exact hm z h1
    rw [e] at F₁
    exact turn i v o h tk own hv hown ho F₁ N₁
  · rintro m₁ news₁ h tk ⟨⟨o, rfl, ho⟩, hm⟩ F₁ N₁
    rw [form1 hm] at F₁
    exact done (m₁ x) o h tk ho F₁ N₁
theorem cellG {L l D : Addr} {vs : List Value} {nn : Nat} {m' m₀ : Str → Option Value} {own rest : List (Addr × Obj)} {s₁ : Shared} {h' : Heap} {tk i : Nat} {x : Str} {O : Nat → Obj → Prop} {o : Obj} (hl : (l, listOf vs.toArray nn) ∈ rest) (ho : OwnOff own (D :: rest.map (·.1))) (F : Fr h₀ L h' m') (N : News h₀ L h' ((D, o) :: (rest ++ own)))
    (hO : O (i + 1) o) (hm : ∀ z, z ≠ x → m' z = m₀ z) : InvEndG h₀ L (fun m' nx => (l, listOf vs.toArray nn) ∈ nx ∧ CellJ x D rest m₀ O (i + 1) m' nx) own s₁ { s₁ with heap := h', toks := tk } :=
  InvEndG.intro (nx := (D, o) :: rest) F N ⟨.tail _ hl, ⟨o, rfl, hO⟩, hm⟩ ho (fun p hp => by
    rcases List.mem_cons.mp hp with rfl | hp
    · exact .head _
    · exact .tail _ (List.mem_append.mpr (.inl hp))) fun p hp => .tail _ (List.mem_append.mpr (.inr hp))
theorem off_tail {own rest : List (Addr × Obj)} {D : Addr} (ho : OwnOff own (D :: rest.map (·.1))) (hr : ∀ p ∈ rest, p.1 ≠ D) : ∀ p ∈ rest ++ own, p.1 ≠ D := fun p hp => (List.mem_append.mp hp).elim (hr p) fun h => ho p h D (.head _)
end
section
variable {prog : Program} {w : World} {A : Around} {E : Value → Shared → Prop} {s : Shared} {h₀ : Heap} {L l : Addr} {news : List (Addr × Obj)} {its : Array Value} {n : Nat} {k : Int} {u : Tok} {v : Value} {Q : Value → Shared → Prop}
theorem led_list {h : Heap} (N : News h₀ L h news) (hm : (l, listOf its n) ∈ news) : h.IsList l its := ⟨_, (N _ hm).1, rfl, n, rfl⟩
theorem item_led {value slice : Expr} (N : News h₀ L s.heap news) (hm : (l, listOf its n) ∈ news) (h0 : 0 ≤ k) (hk : k < 2 ^ 63) (hx : its[k.toNat]? = some v) (h : Q v s)
    (hs : subscripted slice false (.ref l) (.int k u) = operate [.ref l, .int k u] (getItem (.ref l) (.int k u)) := by with_unfolding_all rfl) :
    wpAny (model prog w) A (subscriptTail value slice (.ref l) (.int k u)) Q E s :=
  tail_any (led_list N hm).typeIs slot_list_getitem.lookup (wpAny_getItem_list (led_list N hm) h0 hk hx h) hs
end
theorem strs_snoc {vs : List Value} {ss : List Str} {d : Str} (h : StrsAre vs (ss ++ [d])) : ∃ us t, vs = us ++ [.str d t] ∧ StrsAre us ss := by
  induction ss generalizing vs with
  | nil =>
    cases h with
    | cons y t r => cases r; exact ⟨[], t, rfl, .nil⟩
  | cons c r ih =>
    cases h with
    | cons y t r' =>
      obtain ⟨us, t', rfl, h'⟩ := ih r'
      exact ⟨_, t', rfl, .cons _ t h'⟩
theorem strs_one (d : Str) (t : Tok) : StrsAre [.str d t] [d] := .cons d t .nil
theorem strs_pairs {vs : List Value} {ss : List Str} (h : StrsAre vs ss) : ∃ l : List (Str × Tok), vs = strValues l ∧ l.map (·.1) = ss := by
  induction h with
  | nil => exact ⟨[], rfl, rfl⟩
  | cons y t _ ih =>
    obtain ⟨l, h1, h2⟩ := ih
    exact ⟨(y, t) :: l, by rw [h1]; rfl, by rw [← h2]; rfl⟩
theorem fold_le (k B : Nat) (ss : List Str) (hb : ∀ y ∈ ss, y.length ≤ B) : ∀ a, ss.foldl (fun (m : Nat) (y : Str) => m + y.length + k) a ≤ a + ss.length * (B + k) := by
  induction ss with
  | nil => intro a; simp
  | cons y r ih =>
    intro a
    rw [List.foldl_cons]
    have h1 := ih (fun z hz => hb z (.tail _ hz)) (a + y.length + k)
    have h2 := hb y (.head _)
    rw [List.length_cons, Nat.succ_mul]
    omega
theorem joinOk_of {x : Str} {ss : List Str} (hx : x.length ≤ 10) (hn : ss.length ≤ 1000) (hb : ∀ y ∈ ss, y.length ≤ 1000) : JoinOk x ss = true := by
  unfold JoinOk Builtin.Str.tooLong
  have h := fold_le x.length 1000 ss hb 0
  have h2 : ss.length * (1000 + x.length) ≤ 1000 * 1010 := Nat.mul_le_mul hn (by omega)
  rw [List.foldl_toArray]
  simp only [Bool.not_eq_true', decide_eq_false_iff_not]
  rw [sizeLine_eq]
  omega
section
variable {prog : Program} {w : World} {A : Around} {E : Value → Shared → Prop} {s : Shared} {h₀ : Heap} {L l : Addr} {news : List (Addr × Obj)} {its : Array Value} {n : Nat} {u : Tok} {v : Value} {Q : Value → Shared → Prop}
theorem join_led {x : Str} {t : Tok} {us : List Value} {ss : List Str} (N : News h₀ L s.heap news) (hm : (l, listOf us.toArray n) ∈ news) (hS : StrsAre us ss) (hok : JoinOk x ss = true)
    (hq : ∀ t' k, Q (.str (Txt.join x ss) t') { s with toks := k }) : wpAny (model prog w) A (call (.builtin "str.join") [.str x t, .ref l]) Q E s := by
  obtain ⟨ps, rfl, e⟩ := strs_pairs hS
  exact SC.join (led_list N hm) e hok hq
theorem truthy_led {Q : Bool → Shared → Prop} {b : Bool} (N : News h₀ L s.heap news) (hm : (l, listOf its n) ∈ news) (hfit : (its.size : Int) < 2 ^ 63) (hb : (!its.isEmpty) = b) (h : Q b { s with toks := s.toks + 1 + 1 }) :
    wpAny (model prog w) A (truthy (.ref l)) Q E s := wpAny_truthy_list (led_list N hm) hfit (by rw [hb]; exact h)
end
end Mine
end
section
open PySem PySem.Spec PySem.Calls PySem.W PyProof.Rows
namespace Mine
section
variable {prog : Program} {w : World} {A : Around} {s : Shared} {h₀ : Heap} {L : Addr} {m : Str → Option Value} {env : Env} {elt : Expr} {x : Str} {scope : Scope} {cl : List (Str × Addr)} {S : List (Addr × Obj) → Prop} {P : Nat → Value → Prop} {Fin : List Value → List (Addr × Obj) → Prop} {news : List (Addr × Obj)}
theorem comp_inv {n : Nat} (J : Nat → List Value → List (Addr × Obj) → Prop) (h0 : J 0 [] news)
    (turn : ∀ i v I oI C oC D m₂ ys nw h tk (E' : Value → Shared → Prop), i < n → J i ys nw → P i v → LCg.NsObj oC m₂ → m₂ x = some v → Fr h₀ L h m → News h₀ L h ((I, oI) :: (C, oC) :: (D, LCg.lst ys) :: nw) → LCg.Off3 I C D nw → ((@Ne Nat I C) ∧ (@Ne Nat I D) ∧ (@Ne Nat C D)) →
      wpAny (model prog w) A (eval elt (compEnvC scope cl C env)) (LCg.CompEnd h₀ L m { s with heap := h, toks := tk } I oI C oC D (LCg.lst ys) S (fun y nw' => J (i + 1) (ys ++ [y]) nw')) E' { s with heap := h, toks := tk })
    (fin : ∀ ys nw, J n ys nw → Fin ys nw) : LCg.CompRest prog w A h₀ L m env elt x scope cl s S P Fin n 0 [] news := by
  have key : ∀ (j i : Nat) (ys : List Value) (nw : List (Addr × Obj)), i + j = n → J i ys nw → LCg.CompRest prog w A h₀ L m env elt x scope cl s S P Fin j i ys nw := by
    intro j
    induction j with
    | zero =>
      intro i ys nw hi hJ
      have e : i = n := by (exact Nat.le_antisymm (Ar.go [_, _] [(.P (.V 0) (.N 0), .V 1, 1)] 1 (.V 0) (.V 1) rfl (Nat.le_of_eq hi)) (Ar.go [_, _] [(.V 0, .P (.V 1) (.N 0), 1)] 1 (.V 0) (.V 1) rfl (Nat.le_of_eq hi.symm)))
      subst e
      exact LCg.CompRest.zero (fin ys nw hJ)
    | succ j ih =>
      intro i ys nw hi hJ
      refine LCg.CompRest.succ ?_
      intro v I oI C oC D m₂ h tk E' hv hC hx F N off ne
      refine wpAny_mono (turn i v I oI C oC D m₂ ys nw h tk E' (by (exact Ar.go [_, _, _] [(.P (.V 0) (.P (.V 2) (.N 1)), .V 1, 1)] 1 (.P (.V 0) (.N 1)) (.V 1) rfl (Nat.le_of_eq hi))) hJ hv hC hx F N off ne) (fun y s₂ hq => ?_) fun _ _ e => e
      obtain ⟨h', tk', nw', e, F', N', off', hS, hr⟩ := hq
      exact ⟨h', tk', nw', e, F', N', off', hS, ih (i + 1) _ _ (by (exact Nat.le_antisymm (Ar.go [_, _, _] [(.P (.V 0) (.P (.V 1) (.N 1)), .V 2, 1)] 1 (.P (.P (.V 0) (.N 1)) (.V 1)) (.V 2) rfl (Nat.le_of_eq hi)) (Ar.go [_, _, _] [(.V 0, .P (.V 1) (.P (.V 2) (.N 1)), 1)] 1 (.V 0) (.P (.P (.V 1) (.N 1)) (.V 2)) rfl (Nat.le_of_eq hi.symm)))) hr⟩
  exact key n 0 [] news (by (exact Nat.le_antisymm (Ar.go [_] [] 1 (.P (.N 0) (.V 0)) (.V 0) rfl) (Ar.go [_] [] 1 (.V 0) (.P (.N 0) (.V 0)) rfl))) h0
end
section
variable {prog : Program} {w : World} {A : Around} {E : Value → Shared → Prop} {s : Shared} {h₀ : Heap} {L l : Addr} {news : List (Addr × Obj)} {vs : List Value} {n : Nat} {k : Int} {u : Tok} {v : Value} {Q : Value → Shared → Prop}
theorem item_ledL {value slice : Expr} (N : News h₀ L s.heap news) (hm : (l, listOf vs.toArray n) ∈ news) (h0 : 0 ≤ k) (hk : k < 2 ^ 63) (hx : vs[k.toNat]? = some v) (h : Q v s)
    (hs : subscripted slice false (.ref l) (.int k u) = operate [.ref l, .int k u] (getItem (.ref l) (.int k u)) := by with_unfolding_all rfl) :
    wpAny (model prog w) A (subscriptTail value slice (.ref l) (.int k u)) Q E s := item_led N hm h0 hk (by simpa using hx) h hs
end
end Mine
namespace Mine
noncomputable def nameAt (k : Int) : Str := if k = 0 then Str.ofString "aa" else if k = 1 then Str.ofString "ab" else if k = 2 then Str.ofString "ba" else Str.ofString "bb"
section
variable {prog : Program} {w : World} {A : Around} {E : Value → Shared → Prop} {s : Shared} {h₀ : Heap} {L l : Addr} {news : List (Addr × Obj)} {n : Nat} {k : Int} {u t1 t2 t3 t4 : Tok} {Q : Value → Shared → Prop}
theorem menu4 {value slice : Expr} (N : News h₀ L s.heap news) (hm : (l, listOf [Value.str (Str.ofString "aa") t1, Value.str (Str.ofString "ab") t2, Value.str (Str.ofString "ba") t3, Value.str (Str.ofString "bb") t4].toArray n) ∈ news) (h0 : 0 ≤ k) (hk : k < 4)
    (h : ∀ t, Q (.str (nameAt k) t) s)
    (hs : subscripted slice false (.ref l) (.int k u) = operate [.ref l, .int k u] (getItem (.ref l) (.int k u)) := by with_unfolding_all rfl) :
    wpAny (model prog w) A (subscriptTail value slice (.ref l) (.int k u)) Q E s := by
  have hc : k = 0 ∨ k = 1 ∨ k = 2 ∨ k = 3 := by lia
  rcases hc with rfl | rfl | rfl | rfl
  · exact item_ledL N hm (by decide) (by decide) rfl (h t1) hs
  · exact item_ledL N hm (by decide) (by decide) rfl (h t2) hs
  · exact item_ledL N hm (by decide) (by decide) rfl (h t3) hs
  · exact item_ledL N hm (by decide) (by decide) rfl (h t4) hs
end
end Mine
end
section
open PySem PySem.Calls PySem.W PyProof.Rows
namespace Mine
theorem ba_mro : mroOf (.type "bytearray") = pure [.type "bytearray", .type "object"] := by rw [mroOf_type]; kernel_rfl
theorem ba_lookup_new : typeLookup (.type "bytearray") "__new__" = pure (some (.builtin "bytearray.__new__")) := by rw [typeLookup_type, builtinLookup_eq_fast]; kernel_rfl
theorem ba_slot_init : Slot "bytearray" "__init__" "bytearray.__init__" :=
  .of (owner := "bytearray") (n := "__init__") (by rw [typeLookup_type, builtinLookup_eq_fast]; kernel_rfl) (by decide +kernel) (by decide +kernel) (by decide +kernel)
    (by first | exact .inl (by decide +kernel) | exact .inr (by decide +kernel)) (by rw [isSubtype_type]; kernel_rfl)
theorem ba_called : TypeCalled "bytearray" "bytearray.__new__" "bytearray.__init__" :=
  ⟨by decide +kernel, by decide +kernel, ⟨_, _, ba_mro⟩, madeBy_type ba_mro ba_lookup_new (by decide +kernel), by decide +kernel, by rw [isSubtype_type]; kernel_rfl, ba_slot_init⟩
theorem ba_typeCall (a : Value) : checkTypeCall "bytearray" ⟨[a], []⟩ = pure () := by kernel_rfl
theorem ba_newCall (a : Value) : checkBuiltinCall "bytearray.__new__" ⟨[.type "bytearray", a], []⟩ = pure () := by kernel_rfl
theorem ba_plain_new : plainId "bytearray.__new__" = true := by decide +kernel
theorem ba_plain_init : plainId "bytearray.__init__" = true := by decide +kernel
theorem ba_entry_new : entryFor table "bytearray.__new__" = some Builtin.«list.__new__» := entryFor_alias (id' := "list.__new__") (by kernel_rfl) rfl (by decide +kernel) (by kernel_rfl)
theorem ba_entry_init : entryFor table "bytearray.__init__" = some Builtin.«bytearray.__init__» := entryFor_of_tree (by kernel_rfl)
theorem ba_sub : isSubtype (.type "bytearray") (.type "bytearray") = pure true := by rw [isSubtype_type]; kernel_rfl
theorem ba_bind (v : Value) : Builtin.Bytes.bindOptional "bytearray.__init__" "bytearray" ["source", "encoding", "errors"] [v] [] = pure [some v, none, none] := by kernel_rfl
set_option maxRecDepth 1000000 in
set_option maxHeartbeats 4000000 in
theorem ba_owner : ("bytearray.__new__".splitOn ".__new__").headD "" = "bytearray" := by simp +decide [String.splitOn, String.splitOnAux]
theorem ba_args_init (a b : Value) : argsOk "bytearray.__init__" ⟨[a, b], []⟩ := by unfold argsOk; kernel_rfl
section
variable {prog : Program} {w : World} {A : Around} {E : Value → Shared → Prop} {s : Shared}
theorem ba_code_new (a : Value) {Q₁ : Value → Shared → Prop}
    (h : Q₁ (.ref s.heap.objs.size) { s with heap := s.heap.push { cls := .type "bytearray", data := .bytearray #[] } }) :
    codeAny (model prog w) A (.call (.builtin "bytearray.__new__") ⟨[.type "bytearray", a], []⟩) (wants Q₁ E) s := by
  refine codeAny_of_tree ?_
  show wpAny _ A.in1 (do checkBuiltinCall "bytearray.__new__" ⟨[.type "bytearray", a], []⟩; again (.builtin "bytearray.__new__" ⟨[.type "bytearray", a], []⟩)) _ _ s
  refine wpAny_bind (wpAny_of_eq (ba_newCall a) (wpAny_pure ⟨plainId_quiet ba_plain_new _, codeAny_builtin_stack ba_entry_new rfl fun p st => ?_⟩))
  rw [Around.under_plainId ba_plain_new _]
  have h1 := ba_sub
  have h2 := ba_owner
  obtain ⟨hp, g, d, tk, os⟩ := s
  simp only [h2]
  wp_walk
  exact h
noncomputable abbrev baObj (b : Array UInt8) : Obj := { cls := .type "bytearray", data := .bytearray b }
theorem ba_look_release : typeLookup (.type "bytearray") "__release_buffer__" = pure (some (.builtin "bytearray.__release_buffer__")) := by rw [typeLookup_type, builtinLookup_eq_fast]; kernel_rfl
theorem ba_release {D : Addr} {Q : Bool → Shared → Prop} (hT : s.TypeIs (.ref D) "bytearray") (h : Q false s) : wpAny (model prog w) A (Builtin.Bytes.ownRelease (.ref D)) Q E s := by
  unfold Builtin.Bytes.ownRelease Builtin.Bytes.slotIsOwn
  refine wpAny_bind (wpAny_bind (wpAny_specialOf hT ba_look_release ?_))
  dsimp only
  refine bm_if_false (by decide +kernel) ?_
  have e : ("bytearray.__release_buffer__".dropRight ("__release_buffer__".length + 1)) = "bytearray" := by decide +kernel
  rw [e]
  exact wpAny_isInstance hT ba_sub (wpAny_pure h)
theorem ba_write {D : Addr} {b : Array UInt8} {f : Array UInt8 → Array UInt8} {Q : Unit → Shared → Prop} (hD : s.heap.get? D = some (baObj b)) (hz : (f b).size ≤ sizeLine) (h : Q () { s with heap := s.heap.update D (Obj.mapBytearray f) }) :
    wpAny (model prog w) A (Builtin.Bytes.write (.ref D) f) Q E s := by
  unfold Builtin.Bytes.write updateBytearray
  refine wpAny_bind (wpAny_load hD ?_)
  dsimp only
  refine wpAny_bind (wpAny_update hD ?_)
  refine wpAny_lookBehind (o := baObj (f b)) (Heap.get?_update_self _ hD rfl) ?_ h
  show (if (f b).size > sizeLine then some "bytearray:memory" else none) = none
  rw [if_neg (Nat.not_lt.mpr hz)]
theorem int_index : typeLookup (.type "int") "__index__" = pure (some (.builtin "int.__index__")) := by rw [typeLookup_type, builtinLookup_eq_fast]; kernel_rfl
end
end Mine
end
section
open PySem PySem.Calls PySem.W PyProof.Rows
namespace Mine
section
variable {prog : Program} {w : World} {A : Around} {E : Value → Shared → Prop} {s : Shared}
theorem as_int (i : Int) (t : Tok) : asStr? (Value.int i t) = pure none := by unfold asStr? notAStandIn; rfl
theorem spec_int (i : Int) (t : Tok) : specialOf (Value.int i t) "__index__" = pure (some (.builtin "int.__index__")) := by
  unfold specialOf
  show typeLookup (.type "int") "__index__" = _
  exact int_index
theorem idx_int (i : Int) (t : Tok) : (asIndex (Value.int i t)).attempt = pure (Except.ok i) := by unfold asIndex asInt?; rfl
set_option maxRecDepth 100000 in
theorem ba_init {D : Addr} {n : Nat} {t : Tok} {Q : Fin → Shared → Prop} (hD : s.heap.get? D = some (baObj #[])) (hn : n ≤ 1000)
    (h : ∀ h', Heap.SameBut D s.heap h' → h'.get? D = some (baObj (Array.replicate n 0)) → Q (.done (.ret .none)) { s with heap := h' }) :
    wpG (model prog w) A (Builtin.«bytearray.__init__» ⟨[.ref D, .int n t], []⟩) Q E s := by
  have hT : s.TypeIs (.ref D) "bytearray" := ⟨_, hD, rfl⟩
  unfold Builtin.«bytearray.__init__»
  refine wpG_then (ba_release hT ?_)
  dsimp only
  refine wpG_ite (fun h => absurd h (by decide)) fun _ => ?_
  refine wpG_then (wpAny_of_eq (ba_bind _) ?_)
  dsimp only
  refine wpG_then (wpAny_of_eq (a := ()) rfl ?_)
  refine wpG_then (wpAny_of_eq (a := ()) rfl ?_)
  refine wpG_bind ?_
  refine wpG_bind (m := Builtin.Bytes.exported (Value.ref D)) (wpG_exported ?_)
  show wpG _ _ (Builtin.Bytes.exportsOf (Value.ref D) >>= fun k => pure (decide (k > 0))) _ _ _
  refine wpG_then ?_
  unfold Builtin.Bytes.exportsOf
  refine wpAny_bind (wpAny_load hD (wpAny_pure (wpG_pure ?_)))
  refine wpG_ite (fun h => absurd h (by decide)) fun _ => ?_
  refine wpG_then (ba_write hD (Nat.zero_le _) ?_)
  have hD' : (s.heap.update D (Obj.mapBytearray fun _ => #[])).get? D = some (baObj #[]) := Heap.get?_update_self _ hD rfl
  refine wpG_any ?_
  have e1 : Builtin.Bytes.fitsIndex (n : Int) = true := by unfold Builtin.Bytes.fitsIndex; simp; (exact Ar.cl (n := 9223372036854775808) (Ar.go [_] [(.V 0, .N 1000, 1)] 1 (.P (.V 0) (.N 1)) (.N 9223372036854775808) rfl hn) (by rfl))
  have e2 : ¬ ((n : Int) < 0) := by (exact Int.not_lt.mpr (Int.natCast_nonneg _))
  have e3 : ((n : Int) == 2 ^ 63 - 1) = false := by rw [beq_eq_false_iff_ne]; lia
  have e4 : Builtin.Bytes.tooLong (n : Int).toNat = false := by unfold Builtin.Bytes.tooLong sizeLine; simp; (exact Ar.go [_] [(.V 0, .N 1000, 1)] 1 (.V 0) (.N 16777216) rfl hn)
  rw [as_int, pure_bind]
  rw [if_neg (show ¬ (none : Option Str).isSome = true from Bool.false_ne_true)]
  refine wpAny_bind ?_
  rw [if_neg (show ¬ (none : Option Value).isSome = true from Bool.false_ne_true)]
  rw [if_neg (show ¬ (none : Option Value).isSome = true from Bool.false_ne_true)]
  refine wpAny_pure ?_
  rw [spec_int, pure_bind]
  rw [if_pos (show (some (Value.builtin "int.__index__")).isSome = true from rfl)]
  rw [idx_int, pure_bind]
  dsimp only
  rw [if_neg (show ¬ (!Builtin.Bytes.fitsIndex (n : Int)) = true by rw [e1]; exact Bool.false_ne_true), if_neg e2, if_neg (fun z => absurd (e3.symm.trans z) Bool.false_ne_true), if_neg (fun z => absurd (e4.symm.trans z) Bool.false_ne_true)]
  refine wpAny_bind (wpAny_rule ?_)
  by_cases hz : (n : Int) > 0
  · rw [if_pos hz]
    refine wpAny_bind (ba_write (s := { s with heap := s.heap.update D (Obj.mapBytearray fun _ => #[]) }) hD' (by simp [sizeLine]; (exact Ar.go [_] [(.V 0, .N 1000, 1)] 1 (.V 0) (.N 16777216) rfl hn)) (wpAny_pure ?_))
    exact h _ (.trans (Heap.SameBut.update ..) (Heap.SameBut.update ..)) (Heap.get?_update_self _ hD' rfl)
  · rw [if_neg hz]
    have e0 : n = 0 := by lia
    subst e0
    exact wpAny_pure (h _ (Heap.SameBut.update ..) hD')
theorem ntG {b : Bool} (h : b = false) : ¬ b = true := by rw [h]; exact Bool.false_ne_true
theorem hold_ok {id : String} (args : Args) (h : (Builtin.Bytes.decodersThatHold.contains id || ["bytearray.__contains__", "bytearray.__mod__", "bytearray.__rmod__", "_struct.pack_into.held", "bytearray.find.held"].contains id) = false) : holder (.builtin id args) = false := h
theorem codeG_builtin {id : String} {args : Args} {b : Builtin} {R : Result → Shared → Prop} (hb : entryFor table id = some b)
    (h : wpG (model prog w) (A.under (.builtin id args)) (b args) (fun fin s' => match fin with | .done f => R (.ok f) s' | .again c' => c'.quiet = true ∧ holder c' = false ∧ codeG (model prog w) A c' R s') (fun e s' => R (.error e) s') s) :
    codeG (model prog w) A (.builtin id args) R s := by
  refine codeG_of_tree ?_
  show wpG _ _ (match entryFor table id with | some b => b args | none => unsupported ((withoutEnding? id "#data").getD id)) _ _ s
  rw [hb]; exact h
theorem codeG_call_builtin {id : String} {args : Args} {b : Builtin} {R : Result → Shared → Prop} (hq : plainId id = true) (hh : holder (.builtin id args) = false) (hb : entryFor table id = some b)
    (h : wpAny (model prog w) A.in1 (checkBuiltinCall id args) (fun _ s₁ => wpG (model prog w) A.in1 (b args)
      (fun fin s' => match fin with | .done f => R (.ok f) s' | .again c' => c'.quiet = true ∧ holder c' = false ∧ codeG (model prog w) A c' R s') (fun e s' => R (.error e) s') s₁)
      (fun e s' => R (.error e) s') s) : codeG (model prog w) A (.call (.builtin id) args) R s := by
  refine codeG_of_tree ?_
  show wpG _ A.in1 (do checkBuiltinCall id args; again (.builtin id args)) _ _ s
  refine wpG_then (wpAny_mono h (fun _ s₁ h₁ => wpG_pure ⟨plainId_quiet hq args, hh, codeG_builtin hb ?_⟩) fun _ _ h' => h')
  rw [Around.under_plainId hq args]; exact h₁
theorem ba_call {n : Nat} {t : Tok} {Q : Value → Shared → Prop} (hn : n ≤ 1000)
    (h : ∀ h', (∀ b o, s.heap.get? b = some o → h'.get? b = some o) → h'.get? s.heap.objs.size = some (baObj (Array.replicate n 0)) → Q (.ref s.heap.objs.size) { s with heap := h' }) :
    wpG (model prog w) A (call (.type "bytearray") [.int n t]) Q E s := by
  obtain ⟨c, tl, hmro⟩ := ba_called.mro
  have hmade := ba_called.made
  have hsub := ba_called.sub
  refine wpG_call (codeG_of_tree ?_)
  refine wpG_any (wpAny_mono (Q := fun fin s' => fin = .again (.builtin "type.__call__" ⟨[.type "bytearray", .int n t], []⟩) ∧ s' = s) (E := fun _ _ => False) (wpAny_pure ⟨rfl, rfl⟩) ?_ (fun _ _ x => x.elim))
  rintro _ s1 ⟨rfl, hs1⟩
  subst s1
  refine ⟨Code.quiet_builtin _ (by decide +kernel), hold_ok _ (by decide +kernel), codeG_builtin F.entry_type_call ?_⟩
  rw [Around.under_plain (weight_type_call_type "bytearray" _ []) rfl]
  have h1 := ba_called.notType
  have h2 := ba_called.canCreate
  unfold Builtin.«type.__call__»
  dsimp only
  rw [if_neg (ntG h1), if_neg (ntG h2), ba_typeCall, pure_bind, hmro, pure_bind, if_neg (show ¬ ((c :: tl).isEmpty = true) from Bool.false_ne_true), hmade, pure_bind]
  dsimp only
  rw [pure_bind]
  refine wpG_then (wpAny_holding (wpAny_call (ba_code_new _ ?_)))
  have hD : (s.heap.push (baObj #[])).get? s.heap.objs.size = some (baObj #[]) := Heap.get?_push_size _ rfl
  have hT : ({ s with heap := s.heap.push (baObj #[]) } : Shared).TypeIs (.ref s.heap.objs.size) "bytearray" := ⟨_, hD, rfl⟩
  refine wpG_then (wpAny_isInstance hT hsub ?_)
  rw [if_neg (by decide)]
  refine wpG_bind (wpG_holding ?_)
  unfold callSpecial?
  refine wpG_then (wpAny_specialOf hT ba_slot_init.lookup ?_)
  dsimp only
  refine wpG_holding ?_
  rw [ba_slot_init.bind, pure_bind]
  dsimp only
  refine wpG_bind (wpG_call ?_)
  refine codeG_call_builtin ba_plain_init (hold_ok _ (by decide +kernel)) ba_entry_init ?_
  refine ba_slot_init.check _ _ _ _ _ _ _ _ hT (ba_args_init _ _) ?_
  refine ba_init (s := { s with heap := s.heap.push (baObj #[]) }) hD hn fun h' hs hD' => ?_
  refine wpG_pure ?_
  dsimp only
  rw [if_neg (by decide)]
  refine wpG_pure ?_
  refine h h' (fun b o e => ?_) hD'
  have hb := Heap.lt_size e
  exact (hs.2 b (Nat.ne_of_lt hb)).trans (Heap.get?_push_of_some _ e)
end
end Mine
end
section
open PySem PySem.Calls PySem.W PyProof.Rows
namespace Mine
section
variable {prog : Program} {w : World} {A : Around} {s : Shared} {R : Result → Shared → Prop}
theorem codeG_func {body : List Stmt} {env : Env}
    (h : wpG (model prog w) (A.deeper env) (execs body env) (fun f s' => R (.ok (.ret (match f with | .ret v => v | _ => .none))) s')
      (fun e s' => wpG (model prog w) (A.deeper env) (leaving env e) (fun _ s'' => R (.error e) s'') (fun e' s'' => R (.error e') s'') s') s) :
    codeG (model prog w) A (.func body env) R s := by
  refine codeG_of_tree ?_
  show wpG _ (A.deeper env) (do point; match ← (execs body env).onRaise (leaving env) with | .ret v => ret v | _ => ret .none) _ _ s
  refine wpG_then (wpAny_point (wpG_bind ?_))
  refine wpG_mono (wpG_onRaise (wpG_mono h (Q' := fun f s' => R (.ok (.ret (match f with | .ret v => v | _ => .none))) s') (fun _ _ x => x) fun e s' x => x)) (fun f s' h' => ?_) (fun e s' h' => h')
  cases f <;> exact wpG_pure h'
theorem codeG_call_function {a : Addr} {args : Args} {o : Obj} {fd : FuncData} {body : List Stmt} (hroom : A.depth < recursionLimit)
    (ho : s.heap.get? a = some o)
    (hd' : o.data = .func fd) (hco : fd.scope.isCoroutine = false) (hgen : fd.scope.isGenerator = false) (hbody : fd.body = .stmts body) (hcd : s.heap.CodeRec fd.code fd.qualname)
    (h : wpAny (model prog w) A.in1 (bindArgs fd args) (fun binds s₁ =>
      wpAny (model prog w) A.in1 (newFunctionEnv fd.scope fd.globals fd.closure binds (fd.qualname ++ ".<locals>.") (some a) fd.code none fd.builtins)
        (fun env s₂ => s₂.heap.NoLimit ∧ codeG (model prog w) A (.func body env) R s₂) (fun e s' => R (.error e) s') s₁) (fun e s' => R (.error e) s') s) :
    codeG (model prog w) A (.call (.ref a) args) R s := by
  refine codeG_of_tree ?_
  show wpG _ A.in1 (callAny (.ref a) args) _ _ s
  refine wpG_any ?_
  delta callAny
  dsimp only
  refine wpAny_bind (wpAny_load ho ?_)
  obtain ⟨c, oc, vs, tq, hc, hoc, hdc, hq⟩ := hcd
  rw [hd']
  dsimp only
  delta callFunction
  dsimp only
  rw [hco, hgen, hbody, hc]
  dsimp only
  rw [hc] at h
  refine wpAny_bind (m := field (.ref c) 1) (wpAny_field hoc hdc hq (wpAny_bind (wpAny_pure ?_)))
  exact wpAny_bind (wpAny_mono h (fun binds s₁ h₁ => wpAny_bind (wpAny_mono h₁ (fun env s₂ h₂ => wpAny_bind (wpAny_enterFrame h₂.1 hroom
    (wpAny_pure ⟨rfl, rfl, h₂.2⟩))) fun _ _ h' => h')) fun _ _ h' => h')
end
section
variable {prog : Program} {w : World} {A₀ A : Around} {s : Shared} {base h₀ : Heap} {L : Addr} {m : Str → Option Value} {news : List (Addr × Obj)} {K : Frag} {p : Program} {loose : List Str} {mean : ExcName → Option Value} {mg mb : Str → Option Value}
theorem code_defG {env : Env} {outer : List Env} {R : Result → Shared → Prop} {name qual : Str} {params : Arguments} {body : List Stmt} {scope : Scope} {dV kV doc pm cdv ct oc : Value} {an od : Option Addr} {osl : Array (Option Value)} {f : Addr} {args : Args} {binds : List (Str × Value)}
    (B : Below A₀ base outer h₀) (F : Fr h₀ L s.heap m) (X₀ : K.In h₀) (N : News h₀ L s.heap news) (T : Top p loose mean mg mb h₀) (hA : A.frames = some (env :: outer)) (hf : env.frame = some L) (hke : env.scope.kind = .function)
    (ho : K.lookup f = some ⟨oc, od, .func (fnOf name qual params body scope dV kV doc pm an cdv ct), osl⟩) (hcd : codeIn K cdv qual = true) (hroom : A.depth < recursionLimit)
    (hbind : BindsTo s (fnOf name qual params body scope dV kV doc pm an cdv ct) args binds) (hloc : ∀ y ∈ binds, scope.names.lookup y.1 = some .local)
    (h : ∀ g L' h₁, Fr h₀ L g m → Fr g L' h₁ (fun y => binds.reverse.lookup y) → News g L' h₁ news → Below A base (env :: outer) g → K.In g → Top p loose mean mg mb g →
      wpG (model prog w) (A.deeper (envOf qual scope L' f cdv)) (execs body (envOf qual scope L' f cdv))
        (fun fl s' => LeaveK h₀ L m g R (match fl with | .ret v => v | _ => .none) s')
        (fun e s' => wpAny (model prog w) (A.deeper (envOf qual scope L' f cdv)) (leaving (envOf qual scope L' f cdv) e) (fun _ s'' => R (.error e) s'') (fun e' s'' => R (.error e') s'') s')
        { s with heap := h₁, toks := s.toks + binds.length })
    (hco : scope.isCoroutine = false) (hgen : scope.isGenerator = false) (hk : scope.kind = .function)
    (hcell : ∀ x ∈ scope.names, x.2 ≠ .cell) : codeG (model prog w) A (.call (.ref f) args) R s := by
  obtain ⟨FG, BG, st, lv⟩ := groundX (R := R) B F N hA hf hke
  refine codeG_call_function (fd := fnOf name qual params body scope dV kV doc pm an cdv ct) (body := body) hroom ((X₀.keeps F.keep) _ _ ho) rfl hco hgen rfl (codeRec_of (X₀.keeps F.keep) hcd) (hbind _ _ _ _ ?_)
  refine wpAny_newFunctionEnv hcell hloc (fun h₁ hns hsb₀ => ⟨(T.nolimit.keeps F.keep).fresh _ hsb₀, codeG_func ?_⟩) hk
  have hk₁ : ∀ b o, s.heap.get? b = some o → h₁.get? b = some o := fun b o e => hsb₀.extBut b o (Nat.ne_of_lt (Heap.lt_size e)) (Heap.get?_push_of_some _ e)
  exact wpG_mono (h _ s.heap.objs.size h₁ FG ⟨hns, fun b o e => hk₁ b o (of_hideAll _ e), Nat.le_of_eq (hideAll_size _ _)⟩
    (fun p hp => ⟨hk₁ _ _ (N p hp).1, Nat.ne_of_lt (Heap.lt_size (N p hp).1), hideAll_none _ (List.mem_map_of_mem hp)⟩) BG (X₀.keeps st) (T.keeps st)) (fun fl s' hl => lv _ _ hl) fun _ _ y => wpG_any y
theorem code_defCG {env : Env} {outer : List Env} {R : Result → Shared → Prop} {name qual : Str} {params : Arguments} {body : List Stmt} {scope : Scope} {dV kV doc pm cdv ct oc : Value} {an od : Option Addr} {osl : Array (Option Value)} {f : Addr} {args : Args} {binds : List (Str × Value)}
    (B : Below A₀ base outer h₀) (F : Fr h₀ L s.heap m) (X₀ : K.In h₀) (N : News h₀ L s.heap news) (T : Top p loose mean mg mb h₀) (hA : A.frames = some (env :: outer)) (hf : env.frame = some L) (hke : env.scope.kind = .function)
    (ho : K.lookup f = some ⟨oc, od, .func (fnOf name qual params body scope dV kV doc pm an cdv ct), osl⟩) (hcd : codeIn K cdv qual = true) (hroom : A.depth < recursionLimit)
    (hbind : BindsTo s (fnOf name qual params body scope dV kV doc pm an cdv ct) args binds) (hkind : (binds.all fun y => scope.names.lookup y.1 == some .local || scope.names.lookup y.1 == some .cell) = true)
    (hnd : ((cellsFrom 0 scope.names []).map (·.1)).Nodup)
    (h : ∀ g L' h₁ tk cells, Fr h₀ L g m → Fr g L' h₁ (bindL (envOfC qual scope L' f cdv).kindOf binds fun _ => none) → News g L' h₁ (cells ++ news) →
      CellsAre (bindC (envOfC qual scope L' f cdv).kindOf binds fun _ => none) (cellsFrom (L' + 1) scope.names []) cells → Below A base (env :: outer) g → K.In g → Top p loose mean mg mb g → (∀ p ∈ news, p.1 < L') →
      wpG (model prog w) (A.deeper (envOfC qual scope L' f cdv)) (execs body (envOfC qual scope L' f cdv))
        (fun fl s' => LeaveK h₀ L m g R (match fl with | .ret v => v | _ => .none) s')
        (fun e s' => wpAny (model prog w) (A.deeper (envOfC qual scope L' f cdv)) (leaving (envOfC qual scope L' f cdv) e) (fun _ s'' => R (.error e) s'') (fun e' s'' => R (.error e') s'') s')
        { s with heap := h₁, toks := tk })
    (hco : scope.isCoroutine = false) (hgen : scope.isGenerator = false) (hk : scope.kind = .function) : codeG (model prog w) A (.call (.ref f) args) R s := by
  obtain ⟨FG, BG, st, lv⟩ := groundX (R := R) B F N hA hf hke
  refine codeG_call_function (fd := fnOf name qual params body scope dV kV doc pm an cdv ct) (body := body) hroom ((X₀.keeps F.keep) _ _ ho) rfl hco hgen rfl (codeRec_of (X₀.keeps F.keep) hcd) (hbind _ _ _ _ ?_)
  refine wpAny_newFunctionEnv_cells hk (kindsX hkind _) fun env' he s' x => ?_
  subst he
  refine ⟨(T.nolimit.keeps F.keep).keeps x.toInCall.keep, codeG_func ?_⟩
  obtain ⟨h₁, tk, rfl, _⟩ := x.done
  have hk₁ := x.toInCall.keep
  obtain ⟨cells, NC, Y⟩ := Cl.news (h₀ := s.heap) (Nat.le_refl _) fun n c hm => ⟨x.cell n c (lookup_of_mem_nodup (cellsFrom_names scope.names 0 (s.heap.objs.size + 1) [] [] rfl ▸ hnd) hm), x.above n c hm⟩
  refine wpG_mono (h _ s.heap.objs.size h₁ tk cells FG ⟨x.toInCall.ns, fun b o e => hk₁ b o (of_hideAll _ e), Nat.le_of_eq (hideAll_size _ _)⟩ (fun p hp => ?_) Y BG (X₀.keeps st) (T.keeps st) (fun p hp => Heap.lt_size (N p hp).1)) (fun fl s' hl => lv _ _ hl) fun _ _ y => wpG_any y
  rcases List.mem_append.mp hp with hp | hp
  · refine ⟨(NC p hp).1, (NC p hp).2.1, ?_⟩
    cases q : (hideAll s.heap (news.map (·.1))).get? p.1 with
    | none => rfl
    | some o => have := of_hideAll _ q; rw [(NC p hp).2.2] at this; cases this
  · exact ⟨hk₁ _ _ (N p hp).1, Nat.ne_of_lt (Heap.lt_size (N p hp).1), hideAll_none _ (List.mem_map_of_mem hp)⟩
end
end Mine
end
section
open PySem PySem.Calls PySem.W PyProof.Rows
namespace Mine
section
variable {prog : Program} {w : World} {M : Model} {A : Around} {E : Value → Shared → Prop} {s : Shared} {env : Env}
theorem wpAny_operate' {vs : List Value} {m : Sem Value} {Q : Value → Shared → Prop} (h : wpAny M A m Q E s) : wpAny M A (operate vs m) Q E s := fun Γ p hΓ => by rw [Sem.wp_operate]; exact h Γ p hΓ
theorem wpG_keep {α : Type} {vs : List Value} {m : Sem α} {Q : α → Shared → Prop} (h : wpG M A m Q E s) : wpG M A (m.keep vs) Q E s := fun Γ p hΓ g => by rw [Sem.wp_keep]; exact h Γ p hΓ g
theorem wpG_execs_cons {st : Stmt} {rest : List Stmt} {Q : Flow → Shared → Prop} (h : wpG M A (exec st env) (fun f s' => match f with | .next => wpG M A (execs rest env) Q E s' | f => Q f s') E s) :
    wpG M A (execs (st :: rest) env) Q E s := by
  rw [execs_cons]
  refine wpG_bind (wpG_mono h (fun f s' h' => ?_) fun _ _ x => x)
  cases f <;> first | exact h' | exact wpG_pure h'
theorem wpG_execs_one {st : Stmt} {Q : Flow → Shared → Prop} (h : wpG M A (exec st env) Q E s) : wpG M A (execs [st] env) Q E s := by
  refine wpG_execs_cons (wpG_mono h (fun f s' h' => ?_) fun _ _ x => x)
  cases f with
  | next => exact wpG_any (wpAny_execs_nil h')
  | _ => exact h'
theorem wpG_execs_then {st : Stmt} {rest : List Stmt} {Q : Flow → Shared → Prop} (h : wpAny M A (exec st env) (fun f s' => match f with | .next => wpG M A (execs rest env) Q E s' | f => Q f s') E s) :
    wpG M A (execs (st :: rest) env) Q E s := wpG_execs_cons (wpG_any h)
theorem wpG_Return {e : Expr} {pos : Pos} {Q : Flow → Shared → Prop} (h : wpG M A (eval e env) (fun v => Q (.ret v)) E s) : wpG M A (exec (.Return (some e) pos) env) Q E s := by
  rw [exec_Return_some]
  exact wpG_then (wpAny_standAt (wpG_bind (wpG_mono h (fun _ _ x => wpG_pure x) fun _ _ x => x)))
theorem wpG_Assign_Name {x : Str} {pos' pos : Pos} {value : Expr} {Q : Flow → Shared → Prop} (h : wpG M A (eval value env) (fun v s₁ => wpAny M A (storeName env x v) (fun _ => Q .next) E s₁) E s)
    (hs : swapsWith value (some (.Name x pos')) pos.line env = pure false := by rfl) : wpG M A (exec (.Assign [.Name x pos'] value pos) env) Q E s := fun Γ p hΓ g => by
  simp only [exec_Assign_Name env x pos' value pos hs, Sem.wp_bind', Sem.wp_cmd_standAt, Sem.wp_bindName, Sem.wp_pure']
  exact Sem.wp_mono M Γ _ (fun v _ s₁ h₁ => h₁ Γ _ hΓ) (fun _ _ _ h' => h') _ _ (h Γ _ hΓ g)
theorem wpG_If {test : Expr} {body orelse : List Stmt} {pos : Pos} {Q : Flow → Shared → Prop}
    (h : wpG M A (isTrue test env (eval test env)) (fun b s₁ => if b then wpG M A (execs body env) Q E s₁ else wpG M A (execs orelse env) Q E s₁) E s) : wpG M A (exec (.If test body orelse pos) env) Q E s := by
  rw [exec_If]
  refine wpG_then (wpAny_standAt (wpG_bind (wpG_mono h (fun b s₁ h₁ => ?_) fun _ _ x => x)))
  cases b <;> exact h₁
theorem wpG_isTrue_not {x : Expr} {pos : Pos} {t : Sem Value} {Q : Bool → Shared → Prop} (h : wpG M A (isTrue x env (eval x env)) (fun b s₁ => Q (!b) s₁) E s) : wpG M A (isTrue (.UnaryOp .Not x pos) env t) Q E s := by
  show wpG M A (do return !(← isTrue x env (eval x env))) Q E s
  exact wpG_bind (wpG_mono h (fun b s₁ h₁ => wpG_pure h₁) fun _ _ x => x)
theorem wpG_isTrue_or {xs : List Expr} {pos : Pos} {t : Sem Value} {Q : Bool → Shared → Prop} (h : wpG M A (allTrue .Or xs env) Q E s) : wpG M A (isTrue (.BoolOp .Or xs pos) env t) Q E s := h
theorem wpG_or_cons {x : Expr} {xs : List Expr} {Q : Bool → Shared → Prop} (h : wpG M A (isTrue x env (eval x env)) (fun b s₁ => if b then Q true s₁ else wpG M A (allTrue .Or xs env) Q E s₁) E s) : wpG M A (allTrue .Or (x :: xs) env) Q E s := by
  show wpG M A (do match (BoolOp.Or), ← isTrue x env (eval x env) with | .And, false => pure false | .Or, true => pure true | _, _ => allTrue .Or xs env) Q E s
  refine wpG_bind (wpG_mono h (fun b s₁ h₁ => ?_) fun _ _ x => x)
  cases b with
  | true => exact wpG_pure h₁
  | false => exact h₁
theorem wpG_or_nil {Q : Bool → Shared → Prop} (h : Q false s) : wpG M A (allTrue .Or [] env) Q E s := wpG_pure h
theorem wpG_isTrue_cmp {l r : Expr} {op : CmpOp} {pos : Pos} {t : Sem Value} {Q : Bool → Shared → Prop} (hm : markedEach [op] [r] (evalEach [r] env) = [eval r env])
    (h : wpG M A (eval l env) (fun a s₁ => wpG M A (eval r env) (fun b s₂ => wpAny M A (compareOp op a b) (fun c s₃ => wpAny M A (truthy c) Q E s₃) E s₂) E s₁) E s) :
    wpG M A (isTrue (.Compare l [op] [r] pos) env t) Q E s := by
  show wpG M A (do testChain pos (← eval l env) [op] (markedEach [op] [r] (evalEach [r] env))) Q E s
  rw [hm]
  refine wpG_bind (wpG_mono h (fun a s₁ h₁ => ?_) fun _ _ x => x)
  show wpG M A (do
    let rv ← holding [a] (eval r env)
    standAt pos
    let c ← operate [a, rv] (compareOp op a rv)
    holding [c] (truthy c)) Q E s₁
  refine wpG_bind (wpG_holding (wpG_mono h₁ (fun b s₂ h₂ => ?_) fun _ _ x => x))
  refine wpG_then (wpAny_standAt (wpG_any ?_))
  refine wpAny_bind (wpAny_operate' (wpAny_mono h₂ (fun c s₃ h₃ => wpAny_holding h₃) fun _ _ x => x))
theorem wpG_cmp {l r : Expr} {op : CmpOp} {pos : Pos} {Q : Value → Shared → Prop} (hm : markedEach [op] [r] (evalEach [r] env) = [eval r env])
    (h : wpG M A (eval l env) (fun a s₁ => wpG M A (eval r env) (fun b s₂ => wpAny M A (compareOp op a b) Q E s₂) E s₁) E s) :
    wpG M A (eval (.Compare l [op] [r] pos) env) Q E s := by
  show wpG M A (do compareChain pos (← eval l env) [op] (markedEach [op] [r] (evalEach [r] env))) Q E s
  rw [hm]
  refine wpG_bind (wpG_mono h (fun a s₁ h₁ => ?_) fun _ _ x => x)
  show wpG M A (do
    let rv ← holding [a] (eval r env)
    standAt pos
    operate [a, rv] (compareOp op a rv)) Q E s₁
  refine wpG_bind (wpG_holding (wpG_mono h₁ (fun b s₂ h₂ => ?_) fun _ _ x => x))
  exact wpG_then (wpAny_standAt (wpG_any (wpAny_operate' h₂)))
theorem wpG_and_cons {pos : Pos} {x y : Sem Value} {rest : List (Sem Value)} {Q : Value → Shared → Prop}
    (h : wpG M A x (fun v s₁ => wpAny M A (truthy v) (fun b s₂ => if b then wpG M A (boolOp pos .And (y :: rest)) Q E s₂ else Q v s₂) E s₁) E s) : wpG M A (boolOp pos .And (x :: y :: rest)) Q E s := by
  show wpG M A (do
    let v ← x
    standAt pos
    let t ← holding [v] (truthy v)
    match (BoolOp.And), t with
    | .And, false | .Or, true => pure v
    | _, _ => boolOp pos .And (y :: rest)) Q E s
  refine wpG_bind (wpG_mono h (fun v s₁ h₁ => ?_) fun _ _ x => x)
  refine wpG_then (wpAny_standAt (wpG_then (wpAny_holding (wpAny_mono h₁ (fun b s₂ h₂ => ?_) fun _ _ x => x))))
  cases b with
  | true => exact h₂
  | false => exact wpG_pure h₂
theorem callWith_typeG {pos : Pos} {T : String} {first : List Value} {args : List (Bool × Sem Value)} {Q : Value → Shared → Prop} (hplain : args.any (·.1) = false)
    (h : wpAny M A (evalArgs (.type T) true args []) (fun a s₁ => wpG M A (call (.type T) (first ++ a.pos) a.kw) Q E s₁) E s) :
    wpG M A (callWith pos (.type T) first args []) Q E s := by
  unfold callWith
  refine wpG_then (wpAny_holding (wpAny_mono h (fun a s₁ h₁ => wpG_then (wpAny_standAt ?_)) fun _ _ x => x))
  rw [hplain, List.any_nil, Bool.or_false]
  refine wpG_then (wpAny_pure ?_)
  exact wpG_bind (wpG_mono h₁ (fun r s₂ hr => wpG_then (wpAny_holding (wpAny_point (wpG_pure hr)))) fun _ _ x => x)
@[irreducible] noncomputable def DefCall (M : Model) (A : Around) (a : Addr) (vs : List Value) (Q E : Value → Shared → Prop) (s : Shared) : Prop := ∃ o fd, s.heap.get? a = some o ∧ o.data = .func fd ∧ wpG M A (call (.ref a) vs) Q E s
theorem DefCall.out {a : Addr} {vs : List Value} {Q : Value → Shared → Prop} (h : DefCall M A a vs Q E s) : ∃ o fd, s.heap.get? a = some o ∧ o.data = .func fd ∧ wpG M A (call (.ref a) vs) Q E s := by unfold DefCall at h; exact h
theorem DefCall.go {K : Frag} {h₀ : Heap} {L a : Addr} {m : Str → Option Value} {oc : Value} {od : Option Addr} {fd : FuncData} {osl : Array (Option Value)} {vs : List Value} {Q : Value → Shared → Prop} (F : Fr h₀ L s.heap m) (X₀ : K.In h₀) (ho : K.lookup a = some ⟨oc, od, .func fd, osl⟩) (h : wpG M A (call (.ref a) vs) Q E s) : DefCall M A a vs Q E s := by
  unfold DefCall; exact ⟨_, _, (X₀.keeps F.keep) _ _ ho, rfl, h⟩
theorem callWith_DefCall {pos : Pos} {a : Addr} {args : List (Bool × Sem Value)} {Q : Value → Shared → Prop}
    (h : wpAny M A (evalArgs (.ref a) true args []) (fun x s₁ => DefCall M A a x.pos Q E s₁ ∧ x.kw = []) E s) :
    wpG M A (callWith pos (.ref a) [] args []) Q E s := by
  unfold callWith
  refine wpG_then (wpAny_holding (wpAny_mono h (fun x s₁ h₁ => wpG_then (wpAny_standAt ?_)) fun _ _ x => x))
  obtain ⟨h₁, hkw⟩ := h₁
  obtain ⟨o, fd, ho, hd, h₁⟩ := h₁.out
  rw [hkw]
  have tail : ∀ {t : Sem Value}, wpG M A t Q E s₁ → wpG M A (t >>= fun r => holding [r] point >>= fun _ => pure r) Q E s₁ :=
    fun ht => wpG_bind (wpG_mono ht (fun r s₂ hr => wpG_then (wpAny_holding (wpAny_point (wpG_pure hr)))) fun _ _ x => x)
  rw [List.any_nil, Bool.or_false]
  cases hs : args.any (·.1) <;>
    refine wpG_then (m := keeperOf (.ref a)) ?_ <;> unfold keeperOf <;>
    refine wpAny_bind (wpAny_load ho ?_) <;> rw [hd] <;> refine wpAny_pure ?_
  · exact wpG_ite (fun _ => tail h₁) fun _ => tail (t := callMarked plainCall _ _ _) (wpG_keep h₁)
  · exact tail (t := callMarked starredCall _ _ _) (wpG_keep h₁)
theorem wpG_Call {x : Str} {p pos : Pos} {e : Expr} {rest : List Expr} {Q : Value → Shared → Prop} {a : Addr}
    (he : starEach (e :: rest) env = (false, eval e env) :: starEach rest env)
    (h : wpAny M A (eval (.Name x p) env) (fun f s₁ => f = .ref a ∧ wpAny M A (spliced (backTo pos (starEach (e :: rest) env))) (fun vs s₂ => DefCall M A a vs Q E s₂) E s₁) E s) :
    wpG M A (eval (.Call (.Name x p) (e :: rest) [] pos) env) Q E s := by
  rw [arm_eval_Call_Name']
  refine wpG_then (wpAny_mono h (fun f s₁ h₁ => ?_) fun _ _ x => x)
  obtain ⟨rfl, h₁⟩ := h₁
  rw [he] at h₁ ⊢
  exact callWith_DefCall (evalArgs_plain (wpAny_mono h₁ (fun vs s₂ h₂ => ⟨h₂, rfl⟩) fun _ _ x => x))
theorem wpG_CallT {x : Str} {p pos : Pos} {e : Expr} {T : String} {Q : Value → Shared → Prop}
    (he : starEach [e] env = [(false, eval e env)])
    (h : wpAny M A (eval (.Name x p) env) (fun f s₁ => f = .type T ∧ wpAny M A (eval e env) (fun v s₂ => wpG M A (call (.type T) [v]) Q E s₂) E s₁) E s) :
    wpG M A (eval (.Call (.Name x p) [e] [] pos) env) Q E s := by
  rw [arm_eval_Call_Name']
  refine wpG_then (wpAny_mono h (fun f s₁ h₁ => ?_) fun _ _ x => x)
  obtain ⟨rfl, h₁⟩ := h₁
  rw [he]
  exact callWith_typeG rfl (evalArgs_plain (spliced_cons (wpAny_mono h₁ (fun v s₂ h₂ => spliced_nil h₂) fun _ _ x => x)))
end
end Mine
end
section
open PySem PySem.Calls PySem.W PyProof.Rows
namespace Mine
noncomputable def SpecG (p : Program) (loose : List Str) (w : World) (mean : ExcName → Option Value) (mg mb : Str → Option Value) (f : Addr) (dD dU : Nat) (args : List Value) (need : List (Addr × Obj)) (Ret : (Value → List (Addr × Obj) → Prop) → Prop) : Prop :=
  ∀ (dp un : Nat) (gd : Option (List Code)) (cn : Str) (cs : Scope) (a : Addr) (ccd : Value) (cl : List (Str × Addr)) (outer : List Env) (A₀ : Around) (base h₀ : Heap) (L : Addr) (m : Str → Option Value) (news : List (Addr × Obj)) (s : Shared)
    (Q E : Value → Shared → Prop),
    Below A₀ base outer h₀ → Fr h₀ L s.heap m → (Mine.hd.heap_1 w.params).In h₀ → News h₀ L s.heap news → Top p loose mean mg mb h₀ → cs.kind = .function → (∀ q ∈ need, q ∈ news) → dp + dD < recursionLimit → un + dU < cLine →
    Ret (fun r tl => ∀ h' tk', Fr h₀ L h' m → News h₀ L h' (tl ++ news) → Q r { s with heap := h', toks := tk' }) →
    wpG (model PySem.Challenge.rw_ik0191_01.row.prog w) (ktrTop dp un gd cn cs L a ccd cl outer) (call (.ref f) args) Q E s
theorem specG_use {p : Program} {loose : List Str} {w : World} {mean : ExcName → Option Value} {mg mb : Str → Option Value} {f : Addr} {dD dU : Nat} {args : List Value} {need : List (Addr × Obj)} {Ret : (Value → List (Addr × Obj) → Prop) → Prop}
    {dp un : Nat} {gd : Option (List Code)} {cn : Str} {cs : Scope} {a : Addr} {ccd : Value} {cl : List (Str × Addr)} {outer : List Env} {A₀ : Around} {base h₀ : Heap} {L : Addr} {m : Str → Option Value} {news : List (Addr × Obj)} {s : Shared} {Q E : Value → Shared → Prop}
    (C : SpecG p loose w mean mg mb f dD dU args need Ret) (B : Below A₀ base outer h₀) (F : Fr h₀ L s.heap m) (X : (Mine.hd.heap_1 w.params).In h₀) (N : News h₀ L s.heap news) (T : Top p loose mean mg mb h₀) (hk : cs.kind = .function) (hn : ∀ q ∈ need, q ∈ news)
    (hd : dp + dD < recursionLimit) (hu : un + dU < cLine)
    (ret : Ret (fun r tl => ∀ h' tk', Fr h₀ L h' m → News h₀ L h' (tl ++ news) → Q r { s with heap := h', toks := tk' })) :
    wpG (model PySem.Challenge.rw_ik0191_01.row.prog w) (ktrTop dp un gd cn cs L a ccd cl outer) (call (.ref f) args) Q E s :=
  C _ _ _ _ _ _ _ _ _ _ _ _ _ _ _ _ _ _ B F X N T hk hn hd hu ret
end Mine
end
section
open PySem PySem.Calls PySem.W PyProof.Rows
namespace Mine
section
variable {prog : Program} {w : World} {A : Around} {E : Value → Shared → Prop} {s : Shared} {env : Env} {h₀ : Heap} {x : Str} {body : List Stmt} {Q : Flow → Shared → Prop}
noncomputable abbrev CellJ2 (x y : Str) (D : Addr) (rest : List (Addr × Obj)) (m₀ : Str → Option Value) (O : Nat → Obj → Prop) (i : Nat) (m' : Str → Option Value) (nx : List (Addr × Obj)) : Prop :=
  (∃ o, nx = (D, o) :: rest ∧ O i o) ∧ ∀ z, z ≠ x → z ≠ y → m' z = m₀ z
theorem form2 {x y : Str} {m₁ m₀ : Str → Option Value} (hm : ∀ z, z ≠ x → z ≠ y → m₁ z = m₀ z) : m₁ = fun z => if z = x then m₁ x else if z = y then m₁ y else m₀ z := by
  funext z
  by_cases h1 : z = x
  · subst h1; simp
  · rw [if_neg h1]
    by_cases h2 : z = y
    · subst h2; simp
    · rw [if_neg h2]; exact hm z h1 h2
theorem range_cell {r D : Addr} {a b c : Int} {t u v : Tok} {n : Nat} {y : Str} {m₀ : Str → Option Value} {rest : List (Addr × Obj)} {o₀ : Obj} (O : Nat → Obj → Prop)
    (hh : A.handled = none) (hr : IsRange s.heap r a b c t u v) (hsmall : Builtin.Range.small a b c = true) (hn : Builtin.Range.rangeSize a b c = (n : Int))
    (F : Fr h₀ env.locals s.heap m₀) (N : News h₀ env.locals s.heap ((D, o₀) :: rest)) (h0 : O 0 o₀)
    (turn : ∀ i t o h tk own w', i < n → OwnOff own (D :: rest.map (·.1)) → O i o → Fr h₀ env.locals h (fun z => if z = x then some (.int (a + (i : Nat) * c) t) else if z = y then w' else m₀ z) → News h₀ env.locals h ((D, o) :: (rest ++ own)) →
      wpAny (model prog w) A (execs body env) (InvPostN h₀ env.locals (CellJ2 x y D rest m₀ O (i + 1)) own (D :: rest.map (·.1)) { s with heap := h, toks := tk } Q) E { s with heap := h, toks := tk })
    (done : ∀ (u w' : Option Value) o h tk, O n o → Fr h₀ env.locals h (fun z => if z = x then u else if z = y then w' else m₀ z) → News h₀ env.locals h ((D, o) :: rest) → Q .next { s with heap := h, toks := tk }) :
    wpAny (model prog w) A (pyIter (.ref r)) (fun it s₂ => LoopAtV prog w A h₀ env x body Q E it s₂) E s := by
  refine wpAny_pyIter_range hr hsmall ?_
  refine loop_invN (fun i m nx => CellJ2 x y D rest m₀ O i m nx) (Walks.range hh s.heap.objs.size a c n) ?_ ?_ ?_ ?_ (by show IsRangeIter _ _ _ _ _; rw [hn]; simpa using Heap.get?_push_size _ rfl) (F.push _)
    (fun p hp => ⟨Heap.get?_push_of_some _ (N p hp).1, (N p hp).2⟩) ⟨⟨o₀, rfl, h0⟩, fun _ _ _ => rfl⟩ ?_ ?_
  · intro hm
    exact absurd F.ns.lt ((List.mem_singleton.mp hm) ▸ Nat.lt_irrefl _)
  · intro b hb
    rw [List.mem_singleton.mp hb]
    exact next_is_new F
  · intro p hp hI
    exact absurd (Heap.lt_size (N p hp).1) ((List.mem_singleton.mp hI) ▸ Nat.lt_irrefl _)
  · intro p hp hI
    exact absurd (Heap.lt_size (N p hp).1) ((List.mem_singleton.mp hI) ▸ Nat.lt_irrefl _)
  · rintro i v m₁ news₁ h tk own hi ⟨t, rfl⟩ _ hown ⟨⟨o, rfl, ho⟩, hm⟩ F₁ N₁
    have e : (fun z => if z = x then some (Value.int (a + (i : Nat) * c) t) else m₁ z) = fun z => if z = x then some (Value.int (a + (i : Nat) * c) t) else if z = y then m₁ y else m₀ z := by
      funext z
      by_cases h1 : z = x
      · simp [h1]
      · simp only [if_neg h1]
        by_cases h2 : z = y
        · subst h2; simp
        · rw [if_neg h2]; exact hm z h1 h2
    rw [e] at F₁
    exact turn i t o h tk own (m₁ y) hi hown ho F₁ N₁
  · rintro m₁ news₁ h tk ⟨⟨o, rfl, ho⟩, hm⟩ F₁ N₁
    rw [form2 hm] at F₁
    exact done (m₁ x) (m₁ y) o h tk ho F₁ N₁
theorem cellN {L D : Addr} {m' m₀ : Str → Option Value} {own rest : List (Addr × Obj)} {s₁ : Shared} {h' : Heap} {tk i : Nat} {x y : Str} {O : Nat → Obj → Prop} {o : Obj} (F : Fr h₀ L h' m') (N : News h₀ L h' ((D, o) :: (rest ++ own)))
    (hO : O (i + 1) o) (hm : ∀ z, z ≠ x → z ≠ y → m' z = m₀ z) : InvEndN h₀ L (CellJ2 x y D rest m₀ O (i + 1)) own (D :: rest.map (·.1)) s₁ { s₁ with heap := h', toks := tk } :=
  InvEndN.intro (nx := (D, o) :: rest) F N ⟨⟨o, rfl, hO⟩, hm⟩ rfl (fun p hp => by
    rcases List.mem_cons.mp hp with rfl | hp
    · exact .head _
    · exact .tail _ (List.mem_append.mpr (.inl hp))) fun p hp => .tail _ (List.mem_append.mpr (.inr hp))
end
end Mine
end
section
open PySem PySem.Calls PySem.W PyProof.Rows
namespace Mine
noncomputable def turnIn (b a : Array UInt8) (i wd : Nat) : Nat → Array UInt8
  | 0 => a
  | j + 1 => (turnIn b a i wd j).set! (i + wd - 1 - j) (b[i + j]!)
noncomputable def turnAll (b : Array UInt8) (wd : Nat) : Nat → Array UInt8
  | 0 => Array.replicate b.size 0
  | q + 1 => turnIn b (turnAll b wd q) (q * wd) wd wd
noncomputable def swapB (b : Array UInt8) (wd : Nat) : Array UInt8 := turnAll b wd (b.size / wd)
theorem turnIn_succ (b a : Array UInt8) (i wd j : Nat) : turnIn b a i wd (j + 1) = (turnIn b a i wd j).set! (i + wd - 1 - j) (b[i + j]!) := rfl
theorem turnAll_succ (b : Array UInt8) (wd q : Nat) : turnAll b wd (q + 1) = turnIn b (turnAll b wd q) (q * wd) wd wd := rfl
theorem turnIn_size (b a : Array UInt8) (i wd : Nat) : ∀ j, (turnIn b a i wd j).size = a.size
  | 0 => rfl
  | j + 1 => by rw [turnIn_succ, Array.set!_eq_setIfInBounds, Array.size_setIfInBounds, turnIn_size b a i wd j]
theorem turnAll_size (b : Array UInt8) (wd : Nat) : ∀ q, (turnAll b wd q).size = b.size
  | 0 => Array.size_replicate
  | q + 1 => by rw [turnAll_succ, turnIn_size, turnAll_size b wd q]
theorem swapB_size (b : Array UInt8) (wd : Nat) : (swapB b wd).size = b.size := turnAll_size b wd _
theorem range_by {n wd : Nat} (hw : 0 < wd) (hd : n % wd = 0) : Builtin.Range.rangeSize 0 n wd = ((n / wd : Nat) : Int) := by
  unfold Builtin.Range.rangeSize
  rw [if_pos (by lia)]
  obtain ⟨k, rfl⟩ := Nat.dvd_of_mod_eq_zero hd
  rw [Nat.mul_div_cancel_left _ hw]
  cases k with
  | zero => simp
  | succ k =>
    have h1 : (0 : Int) < ((wd * (k + 1) : Nat) : Int) := Int.natCast_pos.mpr (Nat.mul_pos hw (Nat.succ_pos k))
    rw [if_pos h1]
    have e : ((wd * (k + 1) : Nat) : Int) - 0 - 1 = (((wd * k + (wd - 1)) : Nat) : Int) := by
      have e2 : wd * (k + 1) = wd * k + (wd - 1) + 1 := by rw [Nat.mul_succ]; (exact Nat.le_antisymm (Ar.go [_, _, _] [(.V 1, .P (.V 2) (.N 1), 1)] 1 (.P (.V 0) (.V 1)) (.P (.P (.V 0) (.V 2)) (.N 1)) rfl (Ar.up _ _)) (Ar.go [_, _, _] [(.P (.V 1) (.N 1), .V 2, 1)] 1 (.P (.P (.V 0) (.V 1)) (.N 1)) (.P (.V 0) (.V 2)) rfl (Ar.dn (Ar.go [_] [(.P (.N 0) (.N 1), .V 0, 1)] 1 (.N 1) (.V 0) rfl hw))))
      rw [e2]; lia
    rw [e, ← Int.natCast_ediv, Nat.mul_add_div hw, Nat.div_eq_of_lt (by (exact Ar.go [_, _] [(.P (.V 0) (.N 1), .V 1, 1)] 1 (.P (.V 0) (.N 1)) (.V 1) rfl (Ar.dn (Ar.go [_] [(.P (.N 0) (.N 1), .V 0, 1)] 1 (.N 1) (.V 0) rfl hw))) : wd - 1 < wd)]
    lia
end Mine
end
section
open PySem PySem.Calls PySem.W PyProof.Rows
namespace Mine
theorem ba_slot_set : Slot "bytearray" "__setitem__" "bytearray.__setitem__" :=
  .of (owner := "bytearray") (n := "__setitem__") (by rw [typeLookup_type, builtinLookup_eq_fast]; kernel_rfl) (by decide +kernel) (by decide +kernel) (by decide +kernel)
    (by first | exact .inl (by decide +kernel) | exact .inr (by decide +kernel)) (by rw [isSubtype_type]; kernel_rfl)
theorem ba_entry_set : entryFor table "bytearray.__setitem__" = some Builtin.«bytearray.__setitem__» := entryFor_of_tree (by kernel_rfl)
theorem ba_args_set (a b c : Value) : argsOk "bytearray.__setitem__" ⟨[a, b, c], []⟩ := by unfold argsOk; kernel_rfl
theorem ba_look_buffer : typeLookup (.type "bytearray") "__buffer__" = pure (some (.builtin "bytearray.__buffer__")) := by rw [typeLookup_type, builtinLookup_eq_fast]; kernel_rfl
theorem ba_look_bytes : typeLookup (.type "bytearray") "__bytes__" = pure none := by rw [typeLookup_type, builtinLookup_eq_fast]; kernel_rfl
theorem ba_look_index : typeLookup (.type "bytearray") "__index__" = pure none := by rw [typeLookup_type, builtinLookup_eq_fast]; kernel_rfl
section
variable {prog : Program} {w : World} {A : Around} {E : Value → Shared → Prop} {s : Shared}
theorem ba_payload {D : Addr} {b : Array UInt8} {Q : Array UInt8 → Shared → Prop} (hD : s.heap.get? D = some (baObj b)) (h : Q b s) : wpAny (model prog w) A (Builtin.Bytes.payload (.ref D)) Q E s := by
  unfold Builtin.Bytes.payload Builtin.Bytes.payload?
  exact wpAny_bind (wpAny_bind (wpAny_load hD (wpAny_pure (wpAny_pure h))))
theorem ba_set {D : Addr} {b : Array UInt8} {k : Nat} {x : UInt8} {t u : Tok} {Q : Unit → Shared → Prop} (hD : s.heap.get? D = some (baObj b)) (hk : k < b.size) (hz : b.size ≤ 1000)
    (h : Q () { s with heap := s.heap.update D (Obj.mapBytearray fun b => b.set! k x) }) : wpAny (model prog w) A (setItem (.ref D) (.int (k : Nat) t) (.int (x.toNat : Nat) u)) Q E s := by
  have hT : s.TypeIs (.ref D) "bytearray" := ⟨_, hD, rfl⟩
  unfold setItem
  refine wpAny_holding ?_
  refine wpAny_bind (wpAny_sequenceKey hT (by decide) ?_)
  refine wpAny_bind (wpAny_callSpecial?_slot (name := Str.ofString "__setitem__") hT ba_slot_set
    (wpAny_call_entry ba_slot_set hT ba_entry_set ?_ (ba_args_set _ _ _)))
  have e1 : Builtin.Bytes.fitsIndex (k : Int) = true := by unfold Builtin.Bytes.fitsIndex; simp; (exact Ar.cl (n := 9223372036854775808) (Ar.go [_, _] [(.P (.V 0) (.N 1), .V 1, 1), (.V 1, .N 1000, 1)] 1 (.P (.V 0) (.N 1)) (.N 9223372036854775808) rfl hk hz) (by rfl))
  have e2 : asIndex (Value.int (k : Int) t) = pure (k : Int) := by unfold asIndex asInt?; rfl
  have e3 : asIndex (Value.int (x.toNat : Int) u) = pure (x.toNat : Int) := by unfold asIndex asInt?; rfl
  have hx := x.toNat_lt
  have e4 : (decide ((x.toNat : Int) < 0) || decide ((x.toNat : Int) ≥ 256)) = false := by
    simp only [Bool.or_eq_false_iff, decide_eq_false_iff_not]; lia
  have e5 : seqIndex? (k : Int) b.size = some k := by
    unfold seqIndex?
    simp only [show ¬ ((k : Int) < 0) by (exact Int.not_lt.mpr (Int.natCast_nonneg _)), if_false]
    simp [hk]
  have e6 : ((x.toNat : Int)).toNat.toUInt8 = x := by simp
  have s1 : Builtin.Bytes.subscript? (Value.int (k : Int) t) = pure (some (k : Int)) := by
    unfold Builtin.Bytes.subscript?
    rw [spec_int, pure_bind, if_neg (by simp), e2, pure_bind, e1]
    rfl
  have s2 : Builtin.Bytes.byteValue (Value.int (x.toNat : Int) u) = pure x := by
    unfold Builtin.Bytes.byteValue
    rw [e3, pure_bind, e4, e6]
    rfl
  unfold Builtin.«bytearray.__setitem__»
  dsimp +zetaHave only [List.isEmpty_nil, Bool.not_true]
  rw [if_neg (show ¬ (!true) = true from Bool.false_ne_true)]
  refine wpAny_bind ?_
  rw [s1]
  refine wpAny_pure ?_
  dsimp only
  refine wpAny_bind ?_
  rw [s2]
  refine wpAny_pure ?_
  (try dsimp only)
  refine wpAny_bind (ba_payload hD ?_)
  (try dsimp only)
  rw [e5]
  refine wpAny_bind (ba_write (f := fun b => b.setIfInBounds k x) hD (by simp [sizeLine]; (exact Ar.go [_] [(.V 0, .N 1000, 1)] 1 (.V 0) (.N 16777216) rfl hz)) ?_)
  refine wpAny_pure ⟨.none, rfl, ?_⟩
  exact wpAny_pure h
theorem ba_set_led {h₀ : Heap} {L D : Addr} {m : Str → Option Value} {rest : List (Addr × Obj)} {b : Array UInt8} {i : Int} {k : Nat} {x : UInt8} {t u : Tok} {Q : Unit → Shared → Prop} (F : Fr h₀ L s.heap m) (N : News h₀ L s.heap ((D, baObj b) :: rest)) (hr : ∀ p ∈ rest, p.1 ≠ D)
    (hi : i = (k : Int)) (hk : k < b.size) (hz : b.size ≤ 1000)
    (h : ∀ h', Fr h₀ L h' m → News h₀ L h' ((D, baObj (b.set! k x)) :: rest) → Q () { s with heap := h' }) : wpAny (model prog w) A (setItem (.ref D) (.int i t) (.int (x.toNat : Nat) u)) Q E s := by
  subst hi
  have hu := news_upd (pre := []) (f := Obj.mapBytearray fun b => b.set! k x) (o' := baObj (b.set! k x)) F N (fun _ h => nomatch h) hr rfl rfl
  exact ba_set (N _ (.head _)).1 hk hz (h _ hu.1 hu.2)
theorem ba_bytes {D : Addr} {b : Array UInt8} {Q : Value → Shared → Prop} (hD : s.heap.get? D = some (baObj b)) (hz : b.size ≤ 1000)
    (h : ∀ t k, Q (.bytes b t) { s with toks := k }) : wpAny (model prog w) A (call (.type "bytes") [.ref D]) Q E s := by
  have hT : s.TypeIs (.ref D) "bytearray" := ⟨_, hD, rfl⟩
  refine callType_codes (Q₁ := fun obj s₁ => s₁.TypeIs obj "bytes" ∧ Q obj s₁) F.bm_called (F.bm_typeCall _) F.entry_object_init ?_ fun obj s₁ h₁ =>
    ⟨h₁.1, F.args_object_init_2 obj _, object_init_meets F.bm_called.init.lookup F.bm_called.made (by decide) prog w A.in1 _ s₁ ⟨h₁.1, rfl, h₁.2⟩⟩
  refine codeAny_of_tree ?_
  show wpAny _ A.in1.in1 (do checkBuiltinCall "bytes.__new__" ⟨[.type "bytes", .ref D], []⟩; again (.builtin "bytes.__new__" ⟨[.type "bytes", .ref D], []⟩)) _ _ s
  refine wpAny_bind (wpAny_of_eq (F.bm_newCall _) (wpAny_pure ⟨plainId_quiet F.bm_plain _, codeAny_builtin F.bm_entry ?_⟩))
  rw [Around.under_plainId F.bm_plain _]
  unfold Builtin.«bytes.__new__»
  refine wpAny_bind (wpAny_of_eq (a := true) rfl ?_)
  refine bm_if_false rfl ?_
  refine wpAny_bind (wpAny_of_eq F.bm_sub ?_)
  refine bm_if_false rfl ?_
  refine wpAny_bind (wpAny_of_eq (F.bm_bind _) ?_)
  refine wpAny_bind (wpAny_of_eq (a := ()) rfl ?_)
  refine wpAny_bind (wpAny_of_eq (a := ()) rfl ?_)
  refine bm_if_false rfl ?_
  refine wpAny_bind (wpAny_specialOf hT ba_look_bytes ?_)
  refine wpAny_bind (wpAny_bind ?_)
  show wpAny _ _ (load D >>= _) _ _ _
  refine wpAny_bind (wpAny_load hD ?_)
  refine wpAny_pure (wpAny_pure ?_)
  refine bm_if_false rfl ?_
  refine wpAny_bind (wpAny_specialOf hT ba_look_index ?_)
  refine bm_if_true rfl ?_
  first
    | show wpAny _ _ (Builtin.Bytes.buffer? "bytes.__new__" (.ref D) true >>= _) _ _ _
    | (refine wpAny_bind ?_; show wpAny _ _ (Builtin.Bytes.buffer? "bytes.__new__" (.ref D) true >>= _) _ _ _)
  refine wpAny_bind ?_
  unfold Builtin.Bytes.buffer?
  refine wpAny_bind (wpAny_specialOf hT ba_look_buffer ?_)
  refine wpAny_bind (m := Builtin.Bytes.slotIsOwn (Value.ref D) "__buffer__") ?_
  unfold Builtin.Bytes.slotIsOwn
  refine wpAny_bind (wpAny_specialOf hT ba_look_buffer ?_)
  dsimp only
  refine bm_if_false (by decide +kernel) ?_
  have e9 : ("bytearray.__buffer__".dropRight ("__buffer__".length + 1)) = "bytearray" := by decide +kernel
  rw [e9]
  refine wpAny_isInstance hT ba_sub ?_
  refine bm_if_false rfl ?_
  refine wpAny_bind (wpAny_specialOf hT ba_look_buffer ?_)
  refine wpAny_bind (m := Builtin.Bytes.ownRelease (Value.ref D)) (ba_release hT ?_)
  refine bm_if_false rfl ?_
  refine wpAny_bind (ba_payload hD (wpAny_pure ?_))
  dsimp only
  refine wpAny_bind (wpAny_rule ?_)
  refine wpAny_bind (wpAny_mkBytes ?_ (by simp [sizeLine]; (exact Ar.go [_] [(.V 0, .N 1000, 1)] 1 (.V 0) (.N 16777216) rfl hz)))
  show wpAny _ _ (if (Value.type "bytes" == Value.type "bytes") = true then _ else _) _ _ _
  refine bm_if_true (by decide) ?_
  first
    | exact wpAny_pure ⟨PySem.W.typeIs_bytes _ _ _, h _ _⟩
    | exact wpAny_bind (wpAny_pure (wpAny_pure ⟨PySem.W.typeIs_bytes _ _ _, h _ _⟩))
theorem by_item {value slice : Expr} {b : Array UInt8} {t ui : Tok} {i : Int} {k : Nat} {Q : Value → Shared → Prop} (hi : i = (k : Int)) (hk : k < b.size) (hz : b.size ≤ 1000) (h : ∀ t' k', Q (.int ((b[k]!).toNat : Nat) t') { s with toks := k' })
    (hs : subscripted slice false (.bytes b t) (.int i ui) = operate [.bytes b t, .int i ui] (getItem (.bytes b t) (.int i ui)) := by with_unfolding_all rfl)
    (ht : ∀ r, letTemporaryGo value (.bytes b t) r = pure () := by intro _; with_unfolding_all rfl) : wpAny (model prog w) A (subscriptTail value slice (.bytes b t) (.int i ui)) Q E s := by
  subst hi
  refine KBw.item_K (ks := KBw.bInts b) rfl (by rw [KBw.ints_length]; (exact Ar.go [_] [(.V 0, .N 1000, 1)] 1 (.V 0) (.N 1099511627776) rfl hz)) (by (exact Int.natCast_nonneg _)) (by rw [KBw.ints_length]; lia) (fun t' k' _ _ => ?_) hs ht
  have e : (KBw.bInts b).getD (k : Int).toNat 0 = ((b[k]!).toNat : Nat) := by
    unfold KBw.bInts
    simp [hk]
  rw [e]
  exact h t' k'
end
end Mine
end
local macro_rules | `(tactic| exists $s:str, by $t:tacticSeq) => do
  let g := (s.getString.splitOn " ").toArray.map fun w =>
    let p := (w.splitOn ":").toArray
    Lean.TSyntax.mk (ks := ``Lean.Parser.Tactic.tacticSeq) (t.raw.rewriteBottomUp fun z => match z.getId.eraseMacroScopes with
      | `x => Lean.mkIdent (p.getD 0 "").toName
      | `y => Lean.mkIdent (p.getD 1 "").toName
      | _ => z)
  `(tactic| first $[| $g:tacticSeq]*)
local macro_rules | `(tactic| walk_at $s:str) => do
  let w := s.getString
  let b := w.front == '!'
  let n := Lean.Name.mkSimple w
  if (← Lean.Macro.resolveNamespace (if b then n else `Mine.hh ++ n)).isEmpty then Lean.Macro.throwUnsupported
  if b then `(tactic| (k_here; refine Mine.Halt.out ?_)) else `(tactic| walk_at $(Lean.quote ("!" ++ w)))
local macro_rules | `(tactic| walk_at "mine e2") => `(tactic| (intro _ _ _ _ _ _ _ N Y _ _ _ l; (try k_lt l); k_cells Y; (try dsimp only [List.cons_append, List.nil_append] at N); (try dsimp only); (try k_fold)))
namespace Mine.h0.«!pyIter ref»
end Mine.h0.«!pyIter ref»
namespace Mine.hh.«pyIter ref»
end Mine.hh.«pyIter ref»
namespace Mine.h1.«!exec For Name Name cons nil»
end Mine.h1.«!exec For Name Name cons nil»
namespace Mine.hh.«exec For Name Name cons nil»
end Mine.hh.«exec For Name Name cons nil»
namespace Mine.h2.«!call builtin:len»
end Mine.h2.«!call builtin:len»
namespace Mine.hh.«call builtin:len»
end Mine.hh.«call builtin:len»
namespace Mine.h3.«!CompSrcT»
end Mine.h3.«!CompSrcT»
namespace Mine.hh.«CompSrcT»
end Mine.hh.«CompSrcT»
namespace Mine.h4.«!subscriptTail»
end Mine.h4.«!subscriptTail»
namespace Mine.hh.«subscriptTail»
end Mine.hh.«subscriptTail»
namespace Mine.h5.«!binaryOp Mult ref int»
end Mine.h5.«!binaryOp Mult ref int»
namespace Mine.hh.«binaryOp Mult ref int»
end Mine.hh.«binaryOp Mult ref int»
namespace Mine.h6.«!compareOp Lt ref ref»
end Mine.h6.«!compareOp Lt ref ref»
namespace Mine.hh.«compareOp Lt ref ref»
end Mine.hh.«compareOp Lt ref ref»
namespace Mine.h7.«!call builtin:list.count»
end Mine.h7.«!call builtin:list.count»
namespace Mine.hh.«call builtin:list.count»
end Mine.hh.«call builtin:list.count»
namespace Mine.h8.«!setItem ref int»
end Mine.h8.«!setItem ref int»
namespace Mine.hh.«setItem ref int»
end Mine.hh.«setItem ref int»
namespace Mine.h9.«!getMethod ref»
end Mine.h9.«!getMethod ref»
namespace Mine.hh.«getMethod ref»
end Mine.hh.«getMethod ref»
namespace Mine.h10.«!compareOp Eq ref ref»
end Mine.h10.«!compareOp Eq ref ref»
namespace Mine.hh.«compareOp Eq ref ref»
end Mine.hh.«compareOp Eq ref ref»
namespace Mine.h11.«!compareOp NotEq ref ref»
end Mine.h11.«!compareOp NotEq ref ref»
namespace Mine.hh.«compareOp NotEq ref ref»
end Mine.hh.«compareOp NotEq ref ref»
namespace Mine.h12.«!exec While BoolOp cons nil»
end Mine.h12.«!exec While BoolOp cons nil»
namespace Mine.hh.«exec While BoolOp cons nil»
end Mine.hh.«exec While BoolOp cons nil»
namespace Mine.h13.«!call type:map»
end Mine.h13.«!call type:map»
namespace Mine.hh.«call type:map»
end Mine.hh.«call type:map»
namespace Mine.h14.«!call type:tuple»
end Mine.h14.«!call type:tuple»
namespace Mine.hh.«call type:tuple»
end Mine.hh.«call type:tuple»
namespace Mine.h15.«!CompSrc»
end Mine.h15.«!CompSrc»
namespace Mine.hh.«CompSrc»
end Mine.hh.«CompSrc»
namespace Mine.h16.«!eval ListComp»
end Mine.h16.«!eval ListComp»
namespace Mine.hh.«eval ListComp»
end Mine.hh.«eval ListComp»
namespace Mine.h17.«!eval SetComp»
end Mine.h17.«!eval SetComp»
namespace Mine.hh.«eval SetComp»
end Mine.hh.«eval SetComp»
namespace Mine.h18.«!exec Assign cons ListComp»
end Mine.h18.«!exec Assign cons ListComp»
namespace Mine.hh.«exec Assign cons ListComp»
end Mine.hh.«exec Assign cons ListComp»
namespace Mine.h19.«!exec Assign cons SetComp»
end Mine.h19.«!exec Assign cons SetComp»
namespace Mine.hh.«exec Assign cons SetComp»
end Mine.hh.«exec Assign cons SetComp»
namespace Mine.h20.«!SrcTup»
end Mine.h20.«!SrcTup»
namespace Mine.hh.«SrcTup»
end Mine.hh.«SrcTup»
namespace Mine.h21.«!SrcSet»
end Mine.h21.«!SrcSet»
namespace Mine.hh.«SrcSet»
end Mine.hh.«SrcSet»
namespace Mine.h22.«!unpackItems ref»
end Mine.h22.«!unpackItems ref»
namespace Mine.hh.«unpackItems ref»
end Mine.hh.«unpackItems ref»
namespace Mine.h23.«!truthy ref»
end Mine.h23.«!truthy ref»
namespace Mine.hh.«truthy ref»
end Mine.hh.«truthy ref»
namespace Mine.h24.«!call type:enumerate»
end Mine.h24.«!call type:enumerate»
namespace Mine.hh.«call type:enumerate»
end Mine.hh.«call type:enumerate»
namespace Mine.h25.«!call builtin:str.join»
end Mine.h25.«!call builtin:str.join»
namespace Mine.hh.«call builtin:str.join»
end Mine.hh.«call builtin:str.join»
namespace Mine.h26.«!call builtin:min»
end Mine.h26.«!call builtin:min»
namespace Mine.hh.«call builtin:min»
end Mine.hh.«call builtin:min»
namespace Mine.h27.«!call builtin:max»
end Mine.h27.«!call builtin:max»
namespace Mine.hh.«call builtin:max»
end Mine.hh.«call builtin:max»
namespace Mine.h28.«!exec For Tuple Call cons nil»
end Mine.h28.«!exec For Tuple Call cons nil»
namespace Mine.hh.«exec For Tuple Call cons nil»
end Mine.hh.«exec For Tuple Call cons nil»
namespace Mine.h29.«!getAttr ref»
end Mine.h29.«!getAttr ref»
namespace Mine.hh.«getAttr ref»
end Mine.hh.«getAttr ref»
namespace Mine.h30.«!call ref»
end Mine.h30.«!call ref»
namespace Mine.hh.«call ref»
end Mine.hh.«call ref»
namespace Mine.h31.«!binaryOp Add ref ref»
end Mine.h31.«!binaryOp Add ref ref»
namespace Mine.hh.«binaryOp Add ref ref»
end Mine.hh.«binaryOp Add ref ref»
namespace Mine.h32.«!call builtin:sorted»
end Mine.h32.«!call builtin:sorted»
namespace Mine.hh.«call builtin:sorted»
end Mine.hh.«call builtin:sorted»
namespace Mine.h33.«!binaryOp Add str str»
end Mine.h33.«!binaryOp Add str str»
namespace Mine.hh.«binaryOp Add str str»
end Mine.hh.«binaryOp Add str str»
namespace Mine.h34.«!call builtin:issubclass»
end Mine.h34.«!call builtin:issubclass»
namespace Mine.hh.«call builtin:issubclass»
end Mine.hh.«call builtin:issubclass»
namespace Mine.h35.«!call builtin:list.pop»
end Mine.h35.«!call builtin:list.pop»
namespace Mine.hh.«call builtin:list.pop»
end Mine.hh.«call builtin:list.pop»
namespace Mine.h36.«!call builtin:iter»
end Mine.h36.«!call builtin:iter»
namespace Mine.hh.«call builtin:iter»
end Mine.hh.«call builtin:iter»
namespace Mine.h37.«!compareOp Is»
end Mine.h37.«!compareOp Is»
namespace Mine.hh.«compareOp Is»
end Mine.hh.«compareOp Is»
namespace Mine.h38.«!call builtin:next»
end Mine.h38.«!call builtin:next»
namespace Mine.hh.«call builtin:next»
end Mine.hh.«call builtin:next»
namespace Mine.h39.«!call type:type»
end Mine.h39.«!call type:type»
namespace Mine.hh.«call type:type»
end Mine.hh.«call type:type»
namespace Mine.h40.«!call builtin:str.encode»
end Mine.h40.«!call builtin:str.encode»
namespace Mine.hh.«call builtin:str.encode»
end Mine.hh.«call builtin:str.encode»
namespace Mine.h41.«!call builtin:bytes.decode»
end Mine.h41.«!call builtin:bytes.decode»
namespace Mine.hh.«call builtin:bytes.decode»
end Mine.hh.«call builtin:bytes.decode»
section
open Mine.h0
open PySem PySem.Calls PySem.W PyProof.Rows
namespace Mine
variable {p : Program} {loose : List Str} {w : World} {mean : ExcName → Option Value} {mg mb : Str → Option Value}

set_option maxHeartbeats 4000000

theorem led_new {h₀ h h1 : Heap} {L : Addr} {m : Str → Option Value} {news : List (Addr × Obj)} {o : Obj} (F : Fr h₀ L h m) (N : News h₀ L h news) (hk : ∀ b o, h.get? b = some o → h1.get? b = some o) (hD : h1.get? h.objs.size = some o) :
    Fr h₀ L h1 m ∧ News h₀ L h1 ((h.objs.size, o) :: news) ∧ ∀ p ∈ news, p.1 < h.objs.size := by
  obtain ⟨oL, es, ep, hL, r⟩ := F.ns
  refine ⟨⟨⟨oL, es, ep, hk _ _ hL, r⟩, fun b o e => hk b o (F.keep b o e), F.above⟩, fun p hp => ?_, fun p hp => Heap.lt_size (N p hp).1⟩
  rcases List.mem_cons.mp hp with rfl | hp
  · exact ⟨hD, (Nat.ne_of_lt (Heap.lt_size hL)).symm, Heap.get?_none_of_le (Nat.le_trans F.above (Nat.le_of_lt (Heap.lt_size hL)))⟩
  · exact ⟨hk _ _ (N p hp).1, (N p hp).2⟩
theorem ba_led {prog : Program} {A : Around} {E : Value → Shared → Prop} {s : Shared} {h₀ : Heap} {L : Addr} {m : Str → Option Value} {news : List (Addr × Obj)} {n : Nat} {t : Tok} {Q : Value → Shared → Prop} (hn : n ≤ 1000) (F : Fr h₀ L s.heap m) (N : News h₀ L s.heap news)
    (h : ∀ D h1, (∀ p ∈ news, p.1 < D) → Fr h₀ L h1 m → News h₀ L h1 ((D, baObj (Array.replicate n 0)) :: news) → Q (.ref D) { s with heap := h1 }) : wpG (model prog w) A (call (.type "bytearray") [.int n t]) Q E s :=
  ba_call hn fun h1 hk hD => by
    obtain ⟨F1, N1, l⟩ := led_new F N hk hD
    exact h _ h1 l F1 N1
theorem small_of {n wd : Nat} (hn : n ≤ 1000) (hw0 : 0 < wd) (hw : wd ≤ 1000) : Builtin.Range.small 0 n wd = true := by
  have hr : 0 ≤ Builtin.Range.rangeSize 0 n wd ∧ Builtin.Range.rangeSize 0 n wd ≤ 1001 := by
    unfold Builtin.Range.rangeSize
    rw [if_pos (by omega)]
    split
    · have h1 : 0 ≤ ((n : Int) - 0 - 1) / wd := Int.ediv_nonneg (by omega) (by omega)
      have h2 : ((n : Int) - 0 - 1) / wd ≤ (n : Int) - 0 - 1 := Int.ediv_le_self _ (by omega)
      omega
    · omega
  unfold Builtin.Range.small
  simp only [Builtin.Range.rangeFitsLong, Bool.and_eq_true, Bool.or_eq_true, decide_eq_true_eq, beq_iff_eq, if_pos (show (wd : Int) > 0 by omega)]
  generalize Builtin.Range.rangeSize 0 n wd = z at hr
  omega
theorem small_one' {wd : Nat} (hw : wd ≤ 1000) : Builtin.Range.small 0 wd 1 = true := small_of (wd := 1) hw (by omega) (by omega)
theorem range_one (wd : Nat) : Builtin.Range.rangeSize 0 wd 1 = (wd : Nat) := by
  have := range_by (n := wd) (wd := 1) (by omega) (Nat.mod_one _)
  simpa using this
theorem swap_spec (b : Array UInt8) (tb : Tok) (wd : Nat) (tw : Tok) (hb : b.size ≤ 1000) (hw : 0 < wd) (hw2 : wd ≤ 1000) (hdv : b.size % wd = 0) :
  SpecG p loose w mean mg mb 28 8 80 [.bytes b tb, .int wd tw] [] (RBytes (swapB b wd)) := by
  unfold SpecG; k_fill
  intro dp un gd cn cs a ccd cl outer A₀ base h₀ L m news s Q E B F X N T hk hneed hd hu hret
  refine wpG_call ?_
  (refine' code_defG ?k1 ?k2 ?k3 ?k4 ?k5 ?kA ?kF ?kK ?k6 ?k7 ?k8 ?k9 ?kB ?_ ?c2 ?c3 ?c4 ?c5; (case kA | kF => exact rfl); (case kK => assumption); (case k1 | k2 | k3 | k4 | k5 => k_asm); (case k6 | k7 => k_is); (case k8 => ktr_room); (case k9 => first | exact BindsTo.of_eq rfl | exact binds_K (by k_in) rfl (by k_is) rfl rfl rfl); (case c5 => decide); (case kB => exact locs rfl); (case c2 | c3 | c4 => exact rfl); k_whole; intro _ _ _ _ _ _ _ _ _; (try dsimp only); (try k_fold))
  refine wpG_execs_cons (wpG_Assign_Name (wpG_CallT (T := "bytearray") rfl ?_))
  dsimp only
  k_steps
  refine ba_led hb (by k_asm) (by k_asm) fun D h1 l9 F9 N9 => ?_
  k_steps
  refine wpG_any ?_
  k_steps
  refine Halt.go ?_
  rename IsRange _ _ _ _ _ _ _ _ => R2
  refine range_cell (x := Str.ofString "i") (y := Str.ofString "j") (fun q o => o = baObj (turnAll b wd q)) rfl R2 (small_of hb hw hw2) (range_by hw hdv) (by k_asm) (by k_asm) rfl ?turn ?done
  case turn =>
    rintro q t3 o3 h3 tk3 own3 w3 hq hown rfl F3 N3
    dsimp only at F3
    have hq1 : q * wd + wd ≤ b.size := by
      have h1 : (q + 1) * wd ≤ b.size / wd * wd := Nat.mul_le_mul_right _ hq
      have h2 := Nat.div_mul_le_self b.size wd
      rw [Nat.succ_mul] at h1
      omega
    have hsz := turnAll_size b wd q
    k_steps
    refine Halt.go ?_
    rename IsRange _ _ _ _ _ _ _ _ => R4
    refine range_cell (x := Str.ofString "j") (y := Str.ofString "j") (fun j o => o = baObj (turnIn b (turnAll b wd q) (q * wd) wd j)) rfl R4 (small_one' hw2) (n := wd) (range_one wd) (by k_asm) (by k_asm) rfl ?turn2 ?done2
    case turn2 =>
      rintro j t5 o5 h5 tk5 own5 w5 hj hown5 rfl F5 N5
      (try dsimp only at F5)
      have hqj : q * wd + j < b.size := by omega
      have hD5 : ∀ p ∈ (news ++ own3) ++ own5, p.1 ≠ D := off_tail (rest := news ++ own3) hown5 (off_tail (rest := news) hown fun p hp => Nat.ne_of_lt (l9 p hp))
      k_steps
      refine by_item (k := q * wd + j) (by push_cast; omega) hqj hb (fun t6 k6 => ?_)
      k_steps
      refine ba_set_led (k := q * wd + wd - 1 - j) (by k_asm) (by k_asm) hD5 (by push_cast; omega) (by rw [turnIn_size, hsz]; omega) (by rw [turnIn_size, hsz]; exact hb) ?_
      intro h7 F7 N7
      k_steps
      refine cellN (by k_asm) (by k_asm) rfl (fun z h1 h2 => ?_)
      (try dsimp only)
      simp only [if_neg h1]
    case done2 =>
      rintro u5 w5 o5 h5 tk5 rfl F5 N5
      k_steps
      refine cellN (by k_asm) (by k_asm) rfl (fun z h1 h2 => ?_)
      (try dsimp only)
      simp only [if_neg h1, if_neg h2]
  case done =>
    rintro u3 w3 o3 h3 tk3 rfl F3 N3
    k_steps
    refine ba_bytes (N3 _ (.head _)).1 (by rw [turnAll_size]; exact hb) fun t8 k8 => ?_
    k_steps
    exact ret_bytes hret rfl (by k_asm) (cb_drop (by k_asm) (by kcj_all))
end Mine
end
section
open PySem PySem.Calls PySem.W PyProof.Rows
set_option genInjectivity false
set_option genSizeOf false
namespace Mine
section
variable {prog : Program} {w : World} {A : Around} {E : Value → Shared → Prop} {s : Shared} {h₀ : Heap} {L : Addr} {m : Str → Option Value} {env : Env}
inductive SrcSI (prog : Program) (w : World) (A : Around) (h₀ : Heap) (L : Addr) (m : Str → Option Value) (env : Env) (elt : Expr) (x : Str) (scope : Scope) (cl : List (Str × Addr)) (Q : Value → Shared → Prop) (s₁ : Shared) : Value → Prop
  | mk (r : Addr) (a b c : Int) (t u v : Tok) (n : Nat) (news : List (Addr × Obj)) (hh : A.handled = none) (F : Fr h₀ L s₁.heap m) (N : News h₀ L s₁.heap news) (hr : IsRange s₁.heap r a b c t u v) (hsm : Builtin.Range.small a b c = true) (hn : Builtin.Range.rangeSize a b c = ((n : Nat) : Int)) (hsz : n ≤ sizeLine)
    (R : ∀ g, LCg.CompRest prog w A h₀ L m env elt x scope cl { s₁ with heap := g } (fun _ => True) (fun i v => ∃ t, v = .int (a + (i : Nat) * c) t) (LCg.FinE h₀ L m { s₁ with heap := g } Q) n 0 [] news) : SrcSI prog w A h₀ L m env elt x scope cl Q s₁ (.ref r)
noncomputable def SrcS (prog : Program) (w : World) (A : Around) (h₀ : Heap) (L : Addr) (m : Str → Option Value) (env : Env) (elt : Expr) (x : Str) (scope : Scope) (cl : List (Str × Addr)) (Q : Value → Shared → Prop) (xv : Value) (s₁ : Shared) : Prop := SrcSI prog w A h₀ L m env elt x scope cl Q s₁ xv
theorem rangeS_st {I : Addr} {a c : Int} {n : Nat} : ∀ i (h h' : Heap) (o : Obj) (nw : List (Addr × Obj)), IsRangeIter h I (a + (i : Nat) * c) ((n : Int) - (i : Nat)) c → h.get? I = some o → h'.get? I = some o → (∀ b o, h₀.get? b = some o → h'.get? b = some o) → News h₀ L h' nw → True → IsRangeIter h' I (a + (i : Nat) * c) ((n : Int) - (i : Nat)) c :=
  fun i h h' o nw st e e' _ _ _ => by
    have st' : h.get? I = some _ := st
    show h'.get? I = some _
    rw [e', ← e]; exact st'
theorem ListComp_S {elt iter : Expr} {x : Str} {px : Pos} {scope : Scope} {cl : List (Str × Addr)} {pos : Pos} {Q : Value → Shared → Prop} (F₀ : Fr h₀ L s.heap m)
    (hclos : closureFor scope env = pure cl) (hcell : ∀ y ∈ scope.names, y.2 ≠ .cell) (hkind : scope.kind = .function)
    (hnames : ∀ y ∈ scope.names, y.2 = .local → scope.names.lookup y.1 = some .local) (hx : scope.names.lookup x = some .local)
    (h : wpAny (model prog w) A (eval iter env) (SrcS prog w A h₀ L m env elt x scope cl Q) E s)
    (hs : ∀ x, foldedSetIterable iter env x = pure x := by intro _; rfl) :
    wpAny (model prog w) A (eval (.ListComp elt [⟨.Name x px, iter, [], 0⟩] scope pos) env) Q E s := by
  rw [eval_ListComp]
  refine wpAny_comprehension_free (use := none) rfl hs hclos hkind hnames (wpAny_mono h (fun xv s₁ h₁ => ?_) fun _ _ e => e)
  obtain ⟨r, a, b, c, t, u, v, n, news, hh, F, N, hr, hsm, hn, hsz, R⟩ := h₁
  refine wpAny_pyIter_range hr hsm ?_
  refine LCg.block_U (Walks.range hh s₁.heap.objs.size a c n) hsz (fun i h st => ⟨_, st⟩) rangeS_st hcell hkind hx (by show IsRangeIter _ _ _ _ _; rw [hn]; simpa using Heap.get?_push_size _ rfl) (fun b hb => ?_)
    (F.keeps fun _ _ e => Heap.get?_push_of_some _ e) (N.grown fun _ _ e => Heap.get?_push_of_some _ e) (Nat.ne_of_lt F.ns.lt) (next_is_new F) (fun p hp => Nat.ne_of_lt (Heap.lt_size (N p hp).1)) trivial (R _) ?_
  · rw [List.mem_singleton.mp hb]
    show s₁.heap.objs.size < (s₁.heap.push _).objs.size
    rw [Heap.size_push]; exact Nat.lt_succ_self _
  · intro D C h tk m' ys news' F' N' o1 hn hC₀ hD₀ hCL hDL hCD offC fin
    refine ⟨m', hn, fun h'' hs'' => fin D h'' tk (F'.change hs'' hCL hC₀) (fun p hp => ?_) o1⟩
    refine ⟨hs''.extBut _ _ ?_ (N' p hp).1, (N' p hp).2⟩
    rcases List.mem_cons.mp hp with rfl | hp
    · exact Ne.symm hCD
    · exact offC p hp
theorem SrcS.range {elt : Expr} {x : Str} {scope : Scope} {cl : List (Str × Addr)} {Q : Value → Shared → Prop} {r : Addr} {a b c : Int} {t u v : Tok} {n : Nat} {news : List (Addr × Obj)} {s₁ : Shared}
    (hh : A.handled = none) (F : Fr h₀ L s₁.heap m) (N : News h₀ L s₁.heap news) (hr : IsRange s₁.heap r a b c t u v) (hsm : Builtin.Range.small a b c = true) (hn : Builtin.Range.rangeSize a b c = ((n : Nat) : Int)) (hsz : n ≤ sizeLine)
    (h : ∀ g, LCg.CompRest prog w A h₀ L m env elt x scope cl { s₁ with heap := g } (fun _ => True) (fun i v => ∃ t, v = .int (a + (i : Nat) * c) t) (LCg.FinE h₀ L m { s₁ with heap := g } Q) n 0 [] news) :
    SrcS prog w A h₀ L m env elt x scope cl Q (.ref r) s₁ := ⟨r, a, b, c, t, u, v, n, news, hh, F, N, hr, hsm, hn, hsz, h⟩
end
end Mine
end
section
open PySem PySem.Calls PySem.W PyProof.Rows
set_option genInjectivity false
set_option genSizeOf false
namespace Mine
open PySem.Builtin PySem.Builtin.Bytes
theorem bj_slot : Slot "bytes" "join" "bytes.join" :=
  .of (owner := "bytes") (n := "join") (by rw [typeLookup_type, builtinLookup_eq_fast]; kernel_rfl) (by decide +kernel) (by decide +kernel) (by decide +kernel)
    (by first | exact .inl (by decide +kernel) | exact .inr (by decide +kernel)) (by rw [isSubtype_type]; kernel_rfl)
theorem bj_type : typeOf (.builtin "bytes.join") = pure (.type "method_descriptor") := by show builtinType _ = _; rw [builtinType_eq_fast]; kernel_rfl
theorem bj_entry : entryFor table "bytes.join" = some Builtin.«bytes.join» := entryFor_of_tree (by kernel_rfl)
theorem bj_args (a b : Value) : argsOk "bytes.join" ⟨[a, b], []⟩ := by unfold argsOk; kernel_rfl
theorem bj_method {M : Model} {A : Around} {E : Value → Shared → Prop} {s : Shared} {b : Array UInt8} {t : Tok} {pl : Sem Bool} {Q : Value × List Value → Shared → Prop} (h : Q (.builtin "bytes.join", [.bytes b t]) s) : wpAny M A (getMethod (.bytes b t) (Str.ofString "join") pl) Q E s := by
  with_reducible exact KBd.method_of (.bytes b t) (typeIs_bytes _ _ _) bj_slot bj_type KBd.noRef h
theorem bj_take {id : String} {b : Array UInt8} {t : Tok} : takeBufferQuiet? id (.bytes b t) 0 = pure (some (b, none)) := by
  unfold takeBufferQuiet? takeBuffer?
  rw [KBy.special_eq KBy.look_buffer, KBy.own_buffer]
  have e : (0 == fullReadOnly) = false := by decide +kernel
  rw [pure_bind]
  dsimp only
  rw [e, KBy.buffer_eq]
  rfl
section
variable {prog : Program} {w : World} {A : Around} {E : Value → Shared → Prop} {s : Shared}
theorem wpAny_joinLetGo {keep : List Value} {Q : Unit → Shared → Prop} {M : Model} : ∀ (taken : List (Value × Option Value)), (∀ p ∈ taken, p.2 = none) → Q () s → wpAny M A (joinLetGo taken keep) Q E s
  | [], _, h => wpAny_pure h
  | (x, u) :: r, hn, h => by
    have e : u = none := hn (x, u) (.head _)
    subst e
    refine wpAny_bind (m := letGo _ _) (wpAny_letGo ?_)
    exact wpAny_joinLetGo r (fun p hp => hn p (.tail _ hp)) h
theorem joined_nil (parts : List (Array UInt8)) : joined #[] parts = (parts.flatMap (·.toList)).toArray := by
  unfold joined
  have key : ∀ (l : List (Array UInt8)) (k : Nat) (out : Array UInt8), (l.zipIdx k).foldl (fun out (p, i) => (if i > 0 then out ++ #[] else out) ++ p) out = out ++ (l.flatMap (·.toList)).toArray := by
    intro l
    induction l with
    | nil => intro k out; simp
    | cons a l ih =>
      intro k out
      rw [List.zipIdx_cons, List.foldl_cons, ih]
      dsimp only
      have e : (if k > 0 then out ++ #[] else out) = out := by split <;> simp
      rw [e]
      apply Array.ext'
      simp
  rw [key]
  simp
inductive JInv (s : Shared) (bs : List (Array UInt8)) (rest : List Nat) (b1 : Array (Array UInt8)) (b2 : List (Value × Option Value)) : Shared → Prop
  | mk (i : Nat) (hlen : i + rest.length = bs.length) (hrest : rest = List.range' i rest.length 1) (hp : b1 = (bs.take i).toArray) (hn : ∀ p ∈ b2, p.2 = none) (ha : (b2.any fun x => x.1.onHeap) = false) : JInv s bs rest b1 b2 s
theorem by_join {l : Addr} {t : Tok} {its : Array Value} {bs : List (Array UInt8)} {Q : Value → Shared → Prop} (hl : s.heap.IsList l its) (hsz : its.size = bs.length) (hi : ∀ (i : Nat) (b : Array UInt8), bs[i]? = some b → ∃ u, its[i]? = some (Value.bytes b u)) (hz : (bs.flatMap (·.toList)).length ≤ 1000)
    (h : ∀ t' k, Q (.bytes (bs.flatMap (·.toList)).toArray t') { s with toks := k }) : wpAny (model prog w) A (call (.builtin "bytes.join") [.bytes #[] t, .ref l]) Q E s := by
  refine call_meets bj_slot (typeIs_bytes _ _ _) bj_entry (bj_args _ _) (S := fun _ R s => s.heap.IsList l its ∧ ∀ t' k, R (.ok (.ret (.bytes (bs.flatMap (·.toList)).toArray t'))) { s with toks := k }) (.of_wp fun prog w A R s hR => ?_) ⟨hl, h⟩
  obtain ⟨hl, hR⟩ := hR
  obtain ⟨ol, hol, hoc, nl, hod⟩ := id hl
  obtain ⟨its⟩ := its
  obtain _ | ⟨x, _ | ⟨y, r⟩⟩ := its
  rotate_left 1
  · have h1 : bs.length = 1 := by simpa using hsz.symm
    obtain ⟨b, rfl⟩ := List.length_eq_one_iff.mp h1
    obtain ⟨u, hu⟩ := hi 0 b rfl
    obtain rfl : x = Value.bytes b u := by simpa using hu
    unfold Builtin.«bytes.join» joinM
    refine wpAny_bind (wpAny_of_eq (a := (Value.bytes #[] t, Value.ref l)) (by first | rfl | kernel_rfl) ?_)
    dsimp only
    refine wpAny_bind (m := joinItems (.ref l)) ?_
    unfold joinItems
    refine wpAny_bind (wpAny_typeOf hl.typeIs ?_)
    refine bm_if_true (by decide) (wpAny_pure ?_)
    refine wpAny_bind (wpAny_seqItems hol hod ?_)
    dsimp only
    refine bm_if_true rfl ?_
    (try dsimp only)
    refine wpAny_bind (wpAny_of_eq (a := Value.type "bytes") rfl ?_)
    refine bm_if_true (by decide) ?_
    refine wpAny_bind (wpAny_rule ?_)
    have e : ([b].flatMap (·.toList)).toArray = b := by simp
    rw [e] at hR
    exact wpAny_pure ⟨_, rfl, hR u s.toks⟩
  rotate_left 1
  · obtain rfl : bs = [] := List.eq_nil_of_length_eq_zero hsz.symm
    unfold Builtin.«bytes.join» joinM
    refine wpAny_bind (wpAny_of_eq (a := (Value.bytes #[] t, Value.ref l)) (by first | rfl | kernel_rfl) ?_)
    dsimp only
    refine wpAny_bind (m := joinItems (.ref l)) ?_
    unfold joinItems
    refine wpAny_bind (wpAny_typeOf hl.typeIs ?_)
    refine bm_if_true (by decide) (wpAny_pure ?_)
    refine wpAny_bind (wpAny_seqItems hol hod ?_)
    dsimp only
    refine bm_if_true rfl ?_
    refine wpAny_bind ?_
    rw [Std.Legacy.Range.forIn_eq_forIn_range']
    refine wpAny_pure ?_
    dsimp only
    refine wpAny_bind (m := payload (.bytes #[] t)) (wpAny_of_eq (a := #[]) rfl ?_)
    refine bm_if_false (by decide +kernel) ?_
    refine wpAny_bind (m := mkBytes _) (wpAny_mkBytes ?_ (by decide +kernel))
    refine wpAny_bind (wpAny_holding (wpAny_point ?_))
    refine wpAny_bind (wpAny_pure ?_)
    exact wpAny_pure ⟨_, rfl, hR _ _⟩
  · unfold Builtin.«bytes.join» joinM
    refine wpAny_bind (wpAny_of_eq (a := (Value.bytes #[] t, Value.ref l)) (by first | rfl | kernel_rfl) ?_)
    dsimp only
    refine wpAny_bind (m := joinItems (.ref l)) ?_
    unfold joinItems
    refine wpAny_bind (wpAny_typeOf hl.typeIs ?_)
    refine bm_if_true (by decide) (wpAny_pure ?_)
    refine wpAny_bind (wpAny_seqItems hol hod ?_)
    dsimp only
    refine bm_if_true rfl ?_
    refine wpAny_bind ?_
    rw [Std.Legacy.Range.forIn_eq_forIn_range']
    refine wpAny_forIn_list _ (fun rest b s' => JInv s bs rest b.1 b.2 s') _ ?turn ?fin _ _ ?start
    case start => exact ⟨0, by simp [Std.Legacy.Range.size, hsz], by simp [Std.Legacy.Range.size], by simp, (fun p hp => nomatch hp), rfl⟩
    case turn =>
      rintro j rest ⟨parts, taken⟩ _ ⟨i, hlen, hrest, hp, hn, ha⟩
      rw [List.length_cons] at hlen hrest
      rw [List.range'_succ] at hrest
      obtain ⟨rfl, hrest⟩ := List.cons.inj hrest
      have hj : j < bs.length := by (exact Ar.go [_, _, _] [(.P (.V 0) (.P (.V 2) (.N 1)), .V 1, 1)] 1 (.P (.V 0) (.N 1)) (.V 1) rfl (Nat.le_of_eq hlen))
      obtain ⟨u, hu⟩ := hi j bs[j] (List.getElem?_eq_getElem hj)
      have hg : (⟨x :: y :: r⟩ : Array Value).getD j Value.none = .bytes bs[j] u := by simp [Array.getD_eq_getD_getElem?, hu]
      dsimp only at hp hn ha ⊢
      refine wpAny_bind (wpAny_seqItems hol hod ?_)
      dsimp only
      rw [hg, ha]
      refine bm_if_false rfl ?_
      refine wpAny_bind (wpAny_holding (wpAny_of_eq bj_take ?_))
      dsimp only
      refine wpAny_bind (wpAny_seqItems hol hod ?_)
      dsimp only
      refine bm_if_false (by simp) ?_
      refine wpAny_pure ⟨j + 1, by (exact Nat.le_antisymm (Ar.go [_, _, _] [(.P (.V 0) (.P (.V 1) (.N 1)), .V 2, 1)] 1 (.P (.P (.V 0) (.N 1)) (.V 1)) (.V 2) rfl (Nat.le_of_eq hlen)) (Ar.go [_, _, _] [(.V 0, .P (.V 1) (.P (.V 2) (.N 1)), 1)] 1 (.V 0) (.P (.P (.V 1) (.N 1)) (.V 2)) rfl (Nat.le_of_eq hlen.symm))), hrest, ?_, ?_, ?_⟩
      · show parts.push bs[j] = _
        rw [hp, List.take_add_one, List.getElem?_eq_getElem hj]
        simp
      · intro p hp
        rcases List.mem_append.mp hp with hp | hp
        · exact hn p hp
        · rw [List.mem_singleton.mp hp]
      · show (taken ++ [(Value.bytes bs[j] u, none)]).any _ = false
        rw [List.any_append, ha]
        rfl
    case fin =>
      rintro ⟨parts, taken⟩ _ ⟨i, hlen, _, hp, hn, _⟩
      dsimp only at hp hn ⊢
      have hi' : i = bs.length := by simpa using hlen
      rw [hi', List.take_length] at hp
      subst hp
      refine wpAny_bind (m := payload (.bytes #[] t)) (wpAny_of_eq (a := #[]) rfl ?_)
      have hsum : ∀ (l : List (Array UInt8)) (a : Nat), l.foldl (fun x1 x2 => x1 + x2.size) a = a + (l.flatMap (·.toList)).length := by
        intro l
        induction l with
        | nil => intro a; simp
        | cons b l ih => intro a; rw [List.foldl_cons, ih]; simp; (exact Nat.le_antisymm (Ar.go [_, _, _] [] 1 (.P (.P (.V 0) (.V 1)) (.V 2)) (.P (.V 0) (.P (.V 1) (.V 2))) rfl) (Ar.go [_, _, _] [] 1 (.P (.V 0) (.P (.V 1) (.V 2))) (.P (.P (.V 0) (.V 1)) (.V 2)) rfl))
      have htl : tooLong (Array.foldl (fun x1 x2 => x1 + x2.size) ((#[] : Array UInt8).size * (bs.toArray.size - 1)) bs.toArray) = false := by
        rw [List.foldl_toArray, hsum]
        unfold tooLong sizeLine
        simp
        simp at hz
        (exact Ar.go [_] [(.V 0, .N 1000, 1)] 1 (.V 0) (.N 16777216) rfl hz)
      refine bm_if_false htl ?_
      have hj : joined #[] bs.toArray.toList = (bs.flatMap (·.toList)).toArray := joined_nil bs
      rw [hj]
      refine wpAny_bind (m := mkBytes _) (wpAny_mkBytes ?_ (by rw [List.size_toArray]; unfold sizeLine; (exact Ar.go [_] [(.V 0, .N 1000, 1)] 1 (.V 0) (.N 16777216) rfl hz)))
      refine wpAny_bind (wpAny_holding (wpAny_point ?_))
      refine wpAny_bind (wpAny_joinLetGo _ hn ?_)
      exact wpAny_pure ⟨_, rfl, hR _ _⟩
end
end Mine
end
section
open PySem PySem.Calls PySem.W PyProof.Rows
namespace Mine
open PySem.Builtin
theorem rev_range (n : Nat) : sliceRange ((n : Int) - 1) (-1) (-1) = (List.range n).map fun k => n - 1 - k := by
  unfold sliceRange
  rw [if_neg (by decide)]
  by_cases h : (n : Int) - 1 > -1
  · rw [if_pos h]
    have e : (((n : Int) - 1 - (-1) - (-1) - 1) / (-(-1))).toNat = n := by
      rw [show (-(-1) : Int) = 1 by decide, Int.ediv_one]; lia
    dsimp only
    rw [e]
    refine List.map_congr_left fun k hk => ?_
    lia
  · have : n = 0 := by lia
    subst this
    rfl
theorem rev_sliced (b : Array UInt8) : Bytes.sliced b ((b.size : Int) - 1) (-1) (-1) = b.toList.reverse.toArray := by
  unfold Bytes.sliced
  rw [rev_range]
  congr 1
  apply List.ext_getElem?
  intro i
  have key : ((List.range b.size).map fun k => b.size - 1 - k).filterMap (b[·]?) = (List.range b.size).map fun k => b.toList.getD (b.size - 1 - k) 0 := by
    have gen : ∀ l : List Nat, (∀ k ∈ l, k < b.size) → (l.map fun k => b.size - 1 - k).filterMap (b[·]?) = l.map fun k => b.toList.getD (b.size - 1 - k) 0 := by
      intro l
      induction l with
      | nil => intro _; rfl
      | cons k l ih =>
        intro hl
        have hk' : k < b.size := hl k (.head _)
        have hk2 : b.size - 1 - k < b.size := by (exact Ar.go [_, _, _] [(.V 0, .V 2, 1), (.P (.V 2) (.N 1), .V 1, 1)] 1 (.P (.V 0) (.N 1)) (.V 1) rfl (Nat.sub_le _ _) (Ar.dn (Ar.go [_, _] [(.P (.V 1) (.N 1), .V 0, 1)] 1 (.N 1) (.V 0) rfl hk')))
        rw [List.map_cons, List.filterMap_cons, List.map_cons, ih fun j hj => hl j (.tail _ hj)]
        simp [hk2]
    exact gen _ fun k hk => List.mem_range.mp hk
  rw [key]
  by_cases hi : i < b.size
  · have h2 : b.size - 1 - i < b.size := by (exact Ar.go [_, _, _] [(.V 0, .V 2, 1), (.P (.V 2) (.N 1), .V 1, 1)] 1 (.P (.V 0) (.N 1)) (.V 1) rfl (Nat.sub_le _ _) (Ar.dn (Ar.go [_, _] [(.P (.V 1) (.N 1), .V 0, 1)] 1 (.N 1) (.V 0) rfl hi)))
    rw [List.getElem?_reverse (by simpa using hi)]
    simp [hi, h2]
  · rw [List.getElem?_eq_none (by simpa using hi), List.getElem?_eq_none (by simpa using hi)]
theorem meets_rev (b : Array UInt8) (t tt : Tok) (a : Addr) (hz : b.size ≤ 1000) :
    Meets («bytes.__getitem__» ⟨[.bytes b t, .ref a], []⟩) (fun _ R s => s.heap.IsSliceOf a .none .none (.int (-1) tt) ∧ ∀ t' k, R (.ok (.ret (.bytes b.toList.reverse.toArray t'))) { s with toks := k }) := by
  refine .of_wp fun prog w A R s hS => ?_
  obtain ⟨⟨o, ho, hc, hd⟩, h⟩ := hS
  have hT : s.TypeIs (.ref a) "slice" := ⟨o, ho, hc⟩
  show wpAny _ _ (Bytes.payload (.bytes b t) >>= fun r => _) _ _ s
  refine wpAny_bind (wpAny_of_eq (a := b) rfl ?_)
  show wpAny _ _ (Bytes.subscript? (.ref a) >>= fun r => _) _ _ s
  refine wpAny_bind ?_
  unfold Bytes.subscript?
  refine wpAny_bind (wpAny_specialOf hT slice_no_index (wpAny_pure ?_))
  refine wpAny_bind (wpAny_typeOf hT ?_)
  show wpAny _ _ (Bytes.sliceParts (.ref a) >>= fun r => _) _ _ s
  refine wpAny_bind ?_
  unfold Bytes.sliceParts
  refine wpAny_bind (wpAny_field (x := .int (-1) tt) ho hd rfl ?_)
  kby_int
  refine wpAny_ite (KBy.ite_no (show ¬ ((rawInt (-1) == rawInt 0) = true) by decide) ?_)
  refine wpAny_bind (wpAny_field (x := .none) ho hd rfl ?_)
  kby_none
  refine wpAny_bind (wpAny_field (x := .none) ho hd rfl ?_)
  kby_none
  refine wpAny_pure ?_
  have go : wpAny (model prog w) A.in1 (sliceIndices (rawPart none) (rawPart none) (rawPart (some (-1))) b.size) (fun r s' => r = ((b.size : Int) - 1, -1, -1) ∧ s' = s) (fun _ _ => False) s :=
    wpAny_of_eq (sliceIndices_raw none none (some (-1)) b.size (by decide)) ⟨rfl, rfl⟩
  refine wpAny_bind (wpAny_mono go (fun r s' hr => ?_) fun _ _ e => e.elim)
  obtain ⟨hr1, hr2⟩ := hr
  subst hr1 hr2
  dsimp only
  refine bm_if_false (by simp) ?_
  rw [rev_sliced]
  refine wpAny_bind (wpAny_mkBytes (wpAny_pure ⟨_, rfl, h _ _⟩) ?_)
  simp [sizeLine]; (exact Ar.go [_] [(.V 0, .N 1000, 1)] 1 (.V 0) (.N 16777216) rfl hz)
section
variable {prog : Program} {w : World} {A : Around} {E : Value → Shared → Prop} {s : Shared} {value slice : PySem.Expr} {b : Array UInt8} {t tt : Tok} {h₀ : Heap} {L : Addr} {m : PySem.Str → Option Value} {news : List (Addr × Obj)} {Q : Value → Shared → Prop}
theorem by_rev (hF : Fr h₀ L s.heap m) (hN : News h₀ L s.heap news) (hz : b.size ≤ 1000)
    (h : ∀ h' t' k, Fr h₀ L h' m → News h₀ L h' news → Q (.bytes b.toList.reverse.toArray t') { s with heap := h', toks := k })
    (hs : subscripted slice false (.bytes b t) (.ref s.heap.objs.size) = operate [.ref s.heap.objs.size, .bytes b t] (getItem (.bytes b t) (.ref s.heap.objs.size)) := by with_unfolding_all rfl)
    (ht : ∀ r, letTemporaryGo value (.bytes b t) r = pure () := by intro _; with_unfolding_all rfl) :
    wpAny (model prog w) A (subscriptTail value slice (.bytes b t) (.ref s.heap.objs.size)) Q E { s with heap := s.heap.push { cls := .type "slice", data := .fields #[.none, .none, .int (-1) tt] } } :=
  tail_of_ItemOn ⟨"bytes", _, FB.slot_bytes_getitem.lookup, typeIs_bytes _ _ _, getItem_meets (typeIs_bytes _ _ _) (by decide) FB.slot_bytes_getitem FB.entry_bytes_getitem (FB.args_bytes_getitem_2 _ _) (meets_rev b t tt _ hz)
    ⟨Heap.IsSliceOf.new _ _ _ _, fun t' k => h _ _ _ (hF.push _) (News.pushKeep hN _)⟩⟩ hs ht
theorem bInts_inj {a b : Array UInt8} (h : KBw.bInts a = KBw.bInts b) : a = b := by
  unfold KBw.bInts at h
  apply Array.ext'
  have hf : Function.Injective (fun c : UInt8 => (c.toNat : Int)) := fun x y e => UInt8.toNat_inj.mp (Int.ofNat.inj e)
  exact (List.map_inj_right (fun x y e => hf e)).mp h
theorem by_cut {p q : Nat} {i j : Int} {t1 t2 : Tok} (hF : Fr h₀ L s.heap m) (hN : News h₀ L s.heap news) (hi : i = (p : Int)) (hj : j = (q : Int)) (hpq : p ≤ q) (hq : q ≤ b.size) (hz : b.size ≤ 1000)
    (h : ∀ h' t' k, Fr h₀ L h' m → News h₀ L h' news → Q (.bytes ((b.toList.drop p).take (q - p)).toArray t') { s with heap := h', toks := k })
    (hs : subscripted slice false (.bytes b t) (.ref s.heap.objs.size) = operate [.ref s.heap.objs.size, .bytes b t] (getItem (.bytes b t) (.ref s.heap.objs.size)) := by with_unfolding_all rfl)
    (ht : ∀ r, letTemporaryGo value (.bytes b t) r = pure () := by intro _; with_unfolding_all rfl) :
    wpAny (model prog w) A (subscriptTail value slice (.bytes b t) (.ref s.heap.objs.size)) Q E { s with heap := s.heap.push { cls := .type "slice", data := .fields #[.int i t1, .int j t2, .none] } } := by
  subst hi hj
  refine KBc.slice_K hF hN rfl (.int _ _) (.int _ _) (by rw [KBw.ints_length]; (exact Ar.go [_] [(.V 0, .N 1000, 1)] 1 (.V 0) (.N 16777216) rfl hz)) (fun h' t' k F' N' e => ?_) hs ht
  have e1 : KBy.picked b (some (p : Int)) (some (q : Int)) = ((b.toList.drop p).take (q - p)).toArray := by
    apply bInts_inj
    rw [e]
    simp only [Option.elim, clipAt_nat, KBw.ints_length]
    unfold KBw.bInts
    rw [Nat.min_eq_left (by (exact Ar.go [_, _] [(.V 0, .V 1, 1)] 1 (.V 0) (.V 1) rfl hq)), Nat.min_eq_left (by (exact Ar.go [_, _, _] [(.V 0, .V 2, 1), (.V 2, .V 1, 1)] 1 (.V 0) (.V 1) rfl hpq hq))]
    simp [List.map_drop, List.map_take]
  rw [e1]
  exact h h' t' k F' N'
end
end Mine
end
section
open Mine.h16
open PySem PySem.Calls PySem.W PyProof.Rows
namespace Mine
variable {p : Program} {loose : List Str} {w : World} {mean : ExcName → Option Value} {mg mb : Str → Option Value}
local macro_rules | `(tactic| walk_at "getMethod bytes") => `(tactic| (k_here; with_reducible refine bj_method ?_))

set_option maxHeartbeats 4000000

noncomputable def piece (b : Array UInt8) (wd q : Nat) : Array UInt8 := (((b.toList.drop (q * wd)).take wd).reverse).toArray
noncomputable def pieces (b : Array UInt8) (wd i : Nat) : List (Array UInt8) := (List.range i).map (piece b wd)
noncomputable def PiecesAre (b : Array UInt8) (wd i : Nat) (ys : List Value) : Prop := ys.length = i ∧ ∀ (j : Nat) (x : Array UInt8), (pieces b wd i)[j]? = some x → ∃ u, ys[j]? = some (Value.bytes x u)
theorem pieces_nil {b : Array UInt8} {wd : Nat} : PiecesAre b wd 0 [] := ⟨rfl, fun j x h => by simp [pieces] at h⟩
theorem pieces_snoc {b : Array UInt8} {wd i : Nat} {ys : List Value} {u : Tok} (h : PiecesAre b wd i ys) : PiecesAre b wd (i + 1) (ys ++ [Value.bytes (piece b wd i) u]) := by
  obtain ⟨h1, h2⟩ := h
  refine ⟨by rw [List.length_append, h1]; rfl, fun j x hj => ?_⟩
  unfold pieces at hj
  rw [List.range_succ, List.map_append] at hj
  rcases Nat.lt_trichotomy j i with hlt | rfl | hgt
  · rw [List.getElem?_append_left (by simpa using hlt)] at hj
    rw [List.getElem?_append_left (by (exact Ar.go [_, _, _] [(.V 2, .V 1, 1), (.P (.V 0) (.N 1), .V 2, 1)] 1 (.P (.V 0) (.N 1)) (.V 1) rfl (Nat.le_of_eq h1.symm) hlt))]
    exact h2 j x hj
  · rw [List.getElem?_append_right (by simp)] at hj
    simp at hj
    rw [List.getElem?_append_right (by (exact Ar.go [_, _] [(.V 0, .V 1, 1)] 1 (.V 0) (.V 1) rfl (Nat.le_of_eq h1))), h1]
    simp [hj]
  · rw [List.getElem?_eq_none (by simp; (exact Ar.go [_, _] [(.P (.V 0) (.N 1), .V 1, 1)] 1 (.P (.V 0) (.N 1)) (.V 1) rfl hgt))] at hj
    cases hj
theorem pieces_len (b : Array UInt8) (wd : Nat) : ∀ i, ((pieces b wd i).flatMap (·.toList)).length ≤ i * wd
  | 0 => by simp [pieces]
  | i + 1 => by
    have ih := pieces_len b wd i
    have e : pieces b wd (i + 1) = pieces b wd i ++ [piece b wd i] := by unfold pieces; rw [List.range_succ, List.map_append]; rfl
    have hp : (piece b wd i).toList.length ≤ wd := by unfold piece; simp; (exact Ar.go [_, _] [(.V 0, .V 1, 1)] 1 (.V 0) (.V 1) rfl (Nat.min_le_left _ _))
    rw [e, List.flatMap_append, List.length_append, Nat.succ_mul]
    have : ([piece b wd i].flatMap (·.toList)).length = (piece b wd i).toList.length := by simp
    (exact Ar.go [_, _, _, _, _] [(.V 0, .V 2, 1), (.V 4, .V 3, 1), (.V 1, .V 4, 1)] 1 (.P (.V 0) (.V 1)) (.P (.V 2) (.V 3)) rfl ih hp (Nat.le_of_eq this))
noncomputable def roundB (b : Array UInt8) (wd : Nat) : Array UInt8 := ((pieces b wd (b.size / wd)).flatMap (·.toList)).toArray
theorem round_spec (b : Array UInt8) (tb : Tok) (wd : Nat) (tw : Tok) (hb : b.size ≤ 1000) (hw : 0 < wd) (hw2 : wd ≤ 1000) (hdv : b.size % wd = 0) :
  Spec p loose w mean mg mb 195 12 100 [.bytes b tb, .int wd tw] [] (RBytes (roundB b wd)) := by
  unfold Spec; k_fill
  intro dp un gd cn cs a ccd cl outer A₀ base h₀ L m news s Q E B F X N T hk hneed hd hu hret
  refine wpAny_call ?_
  (refine' code_defC ?k1 ?k2 ?k3 ?k4 ?k5 ?kA ?kF ?kK ?k6 ?k7 ?k8 ?k9 ?kB ?kD ?_ ?c2 ?c3 ?c4; (case kA | kF => exact rfl); (case kK => assumption); (case k1 | k2 | k3 | k4 | k5 => k_asm); (case k6 | k7 => k_is); (case k8 => ktr_room); (case k9 => first | exact BindsTo.of_eq rfl | exact binds_K (by k_in) rfl (by k_is) rfl rfl rfl); (case kB => exact rfl); (case kD => decide +kernel); (case c2 | c3 | c4 => exact rfl); k_whole; walk_at "mine e2")
  (k_steps; repeat (any_goals (refine Halt.go ?_; k_dflt (refine ListComp_S (F₀ := by k_asm) (by rfl) (by decide) (by rfl) (by decide) (by rfl) ?_); k_steps)))
  rename IsRange _ _ _ _ _ _ _ _ => R2
  rename News _ _ _ _ => N2
  k_dflt (refine SrcS.range (n := b.size / wd) rfl (by k_asm) (by k_asm) R2 (small_of hb hw hw2) (range_by hw hdv) ?hz ?_)
  case hz => exact Nat.le_trans (Nat.div_le_self _ _) (by unfold sizeLine; (exact Ar.go [_] [(.V 0, .N 1000, 1)] 1 (.V 0) (.N 16777216) rfl hb))
  intro g9
  refine comp_inv (fun i ys nw => nw = _ ∧ PiecesAre b wd i ys) ⟨rfl, pieces_nil⟩ ?turn ?fin
  case turn =>
    intro i v I oI C oC D m₂ ys nw h tk E' hi hJ hv hC hx9 F9 N9 off ne
    obtain ⟨rfl, hy⟩ := hJ
    obtain ⟨tv, rfl⟩ := hv
    have hq1 : i * wd + wd ≤ b.size := by
      have h1 : (i + 1) * wd ≤ b.size / wd * wd := Nat.mul_le_mul_right _ hi
      have h2 := Nat.div_mul_le_self b.size wd
      rw [Nat.succ_mul] at h1
      (exact Ar.go [_, _, _, _] [(.P (.V 0) (.V 1), .V 3, 1), (.V 3, .V 2, 1)] 1 (.P (.V 0) (.V 1)) (.V 2) rfl h1 h2)
    (k_steps; repeat (any_goals (refine Halt.go ?_; k_dflt (refine ListComp_S (F₀ := by k_asm) (by rfl) (by decide) (by rfl) (by decide) (by rfl) ?_); k_steps)))
    refine by_cut (s := ⟨_, _, _, _, _⟩) (p := i * wd) (q := i * wd + wd) (by k_asm) (by k_asm) (by push_cast; lia) (by push_cast; lia) (by (exact Ar.go [_, _] [] 1 (.V 0) (.P (.V 0) (.V 1)) rfl)) hq1 hb (fun h5 t5 k5 F5 N5 => ?_)
    (k_steps; repeat (any_goals (refine Halt.go ?_; k_dflt (refine ListComp_S (F₀ := by k_asm) (by rfl) (by decide) (by rfl) (by decide) (by rfl) ?_); k_steps)))
    refine by_rev (s := ⟨_, _, _, _, _⟩) (by k_asm) (by k_asm) ?hz5 (fun h6 t6 k6 F6 N6 => ?_)
    case hz5 =>
      rw [List.size_toArray, List.length_take, List.length_drop, Array.length_toList]
      (exact Ar.go [_, _, _] [(.V 1, .N 1000, 1), (.V 0, .V 2, 1), (.V 2, .V 1, 1)] 1 (.V 0) (.N 1000) rfl hb (Nat.min_le_right _ _) (Nat.sub_le _ _))
    dsimp only
    (k_steps; repeat (any_goals (refine Halt.go ?_; k_dflt (refine ListComp_S (F₀ := by k_asm) (by rfl) (by decide) (by rfl) (by decide) (by rfl) ?_); k_steps)))
    exact LCg.CompEnd.intro (by k_asm) (by k_asm) _ (by kcj_all) off trivial ⟨rfl, by rw [show i * wd + wd - i * wd = wd by (exact Nat.le_antisymm (Ar.go [_, _, _] [(.P (.V 0) (.V 2), .P (.V 2) (.V 1), 1)] 1 (.V 0) (.V 1) rfl (Ar.dn (Ar.go [_, _] [] 1 (.V 0) (.P (.V 0) (.V 1)) rfl))) (Ar.go [_, _, _] [(.P (.V 2) (.V 0), .P (.V 1) (.V 2), 1)] 1 (.V 0) (.V 1) rfl (Ar.up _ _)))]; exact pieces_snoc hy⟩
  case fin =>
    intro ys nw hJ
    obtain ⟨rfl, hy⟩ := hJ
    (k_steps; repeat (any_goals (refine Halt.go ?_; k_dflt (refine ListComp_S (F₀ := by k_asm) (by rfl) (by decide) (by rfl) (by decide) (by rfl) ?_); k_steps)))
    rename News _ _ _ _ => N7
    refine by_join (bs := pieces b wd (b.size / wd)) (led_list N7 (.head _)) ?hsz ?hi ?hz ?_
    case hsz => simp [hy.1, pieces]
    case hi => intro i x hx; simpa using hy.2 i x hx
    case hz =>
      have h1 := pieces_len b wd (b.size / wd)
      have h2 := Nat.div_mul_le_self b.size wd
      (exact Ar.go [_, _, _] [(.V 1, .N 1000, 1), (.V 0, .V 2, 1), (.V 2, .V 1, 1)] 1 (.V 0) (.N 1000) rfl hb h1 h2)
    intro t8 k8
    (k_steps; repeat (any_goals (refine Halt.go ?_; k_dflt (refine ListComp_S (F₀ := by k_asm) (by rfl) (by decide) (by rfl) (by decide) (by rfl) ?_); k_steps)))
    exact ret_bytes hret rfl (by k_asm) (cb_drop (by k_asm) (by kcj_all))
end Mine
end
section
namespace Mine
noncomputable def sig (wd k : Nat) : Nat := k / wd * wd + (wd - 1 - k % wd)
theorem turnIn_get (b a : Array UInt8) (i wd : Nat) (ha : i + wd ≤ a.size) : ∀ j, j ≤ wd → ∀ k, k < a.size → (turnIn b a i wd j)[k]! = if i + wd - j ≤ k ∧ k < i + wd then b[i + (i + wd - 1 - k)]! else a[k]!
  | 0, _, k, hk => by
    rw [if_neg (by (exact fun he9 => Ar.fal (Ar.go [_, _, _, _] [(.P (.V 0) (.V 1), .P (.V 2) (.N 0), 1), (.V 2, .V 3, 1), (.P (.V 3) (.N 1), .P (.V 0) (.V 1), 1)] 1 (.N 1) (.N 0) rfl (Ar.up _ _) he9.1 he9.2)))]
    rfl
  | j + 1, hj, k, hk => by
    have ih := turnIn_get b a i wd ha j (by (exact Ar.go [_, _] [(.P (.V 0) (.N 1), .V 1, 1)] 1 (.V 0) (.V 1) rfl hj)) k hk
    have hsz := turnIn_size b a i wd j
    rw [turnIn_succ, Array.set!_eq_setIfInBounds]
    by_cases h : i + wd - 1 - j = k
    · rw [if_pos (by (exact ⟨Ar.go [_, _, _, _, _, _, _] [(.V 2, .V 1, 1), (.V 3, .P (.V 2) (.V 4), 1), (.P (.V 5) (.V 6), .P (.V 3) (.N 1), 1), (.P (.V 0) (.P (.V 4) (.N 1)), .P (.V 5) (.V 6), 1)] 1 (.V 0) (.V 1) rfl (Nat.le_of_eq h) (Ar.up _ _) (Ar.up _ _) (Ar.dn (Ar.go [_, _, _] [(.P (.V 0) (.N 1), .V 2, 1)] 1 (.P (.V 0) (.N 1)) (.P (.V 1) (.V 2)) rfl hj)), Ar.go [_, _, _, _, _] [(.V 0, .V 3, 1), (.V 3, .V 4, 1), (.P (.V 4) (.N 1), .P (.V 1) (.V 2), 1)] 1 (.P (.V 0) (.N 1)) (.P (.V 1) (.V 2)) rfl (Nat.le_of_eq h.symm) (Nat.sub_le _ _) (Ar.dn (Ar.go [_, _, _] [(.P (.V 2) (.N 1), .V 1, 1)] 1 (.N 1) (.P (.V 0) (.V 1)) rfl hj))⟩))]
      have e : i + (i + wd - 1 - k) = i + j := by (exact Nat.le_antisymm (Ar.go [_, _, _, _, _, _] [(.V 3, .V 4, 1), (.V 5, .P (.V 3) (.V 2), 1), (.P (.V 1) (.V 4), .V 5, 1)] 1 (.P (.V 0) (.V 1)) (.P (.V 0) (.V 2)) rfl (Nat.le_of_eq h) (Ar.up _ _) (Ar.dn (Ar.go [_, _, _] [(.V 0, .V 2, 1), (.V 2, .V 1, 1)] 1 (.V 0) (.V 1) rfl (Nat.le_of_eq h.symm) (Nat.sub_le _ _)))) (Ar.go [_, _, _, _, _, _] [(.V 3, .V 4, 1), (.V 5, .P (.V 2) (.V 3), 1), (.P (.V 4) (.V 1), .V 5, 1)] 1 (.P (.V 0) (.V 1)) (.P (.V 0) (.V 2)) rfl (Nat.le_of_eq h.symm) (Ar.up _ _) (Ar.dn (Ar.go [_, _, _, _] [(.P (.V 0) (.N 1), .V 2, 1), (.P (.V 3) (.V 2), .P (.V 1) (.N 1), 1)] 1 (.V 0) (.V 1) rfl hj (Ar.up _ _)))))
      rw [e, h]
      have hk' : k < (turnIn b a i wd j).size := by (exact Ar.go [_, _, _] [(.P (.V 0) (.N 1), .V 2, 1), (.V 2, .V 1, 1)] 1 (.P (.V 0) (.N 1)) (.V 1) rfl hk (Nat.le_of_eq hsz.symm))
      simp [getElem!_def, Array.getElem?_setIfInBounds, hk']
    · have e : ((turnIn b a i wd j).setIfInBounds (i + wd - 1 - j) b[i + j]!)[k]! = (turnIn b a i wd j)[k]! := by
        simp [getElem!_def, Array.getElem?_setIfInBounds, h]
      rw [e, ih]
      by_cases h2 : i + wd - j ≤ k ∧ k < i + wd
      · rw [if_pos h2, if_pos (by (exact ⟨Ar.go [_, _, _, _, _, _] [(.V 2, .V 1, 1), (.P (.V 3) (.V 4), .P (.V 2) (.V 5), 1), (.P (.V 0) (.P (.V 5) (.N 1)), .P (.V 3) (.V 4), 1)] 1 (.V 0) (.V 1) rfl h2.1 (Ar.up _ _) (Ar.dn (Ar.go [_, _, _] [(.P (.V 0) (.N 1), .V 2, 1)] 1 (.P (.V 0) (.N 1)) (.P (.V 1) (.V 2)) rfl hj)), Ar.go [_, _, _] [(.P (.V 0) (.N 1), .P (.V 1) (.V 2), 1)] 1 (.P (.V 0) (.N 1)) (.P (.V 1) (.V 2)) rfl h2.2⟩))]
      · rw [if_neg h2, if_neg (by lia)]
theorem turnAll_get (b : Array UInt8) (wd : Nat) (hw : 0 < wd) : ∀ q, q * wd ≤ b.size → ∀ k, k < q * wd → (turnAll b wd q)[k]! = b[sig wd k]!
  | 0, _, k, hk => by lia
  | q + 1, hq, k, hk => by
    rw [Nat.succ_mul] at hq hk
    have hsz := turnAll_size b wd q
    rw [turnAll_succ, turnIn_get b (turnAll b wd q) (q * wd) wd (by (exact Ar.go [_, _, _, _] [(.P (.V 0) (.V 1), .V 3, 1), (.V 3, .V 2, 1)] 1 (.P (.V 0) (.V 1)) (.V 2) rfl hq (Nat.le_of_eq hsz.symm))) wd (Nat.le_refl _) k (by (exact Ar.go [_, _, _, _, _] [(.P (.V 2) (.V 3), .V 4, 1), (.P (.V 0) (.N 1), .P (.V 2) (.V 3), 1), (.V 4, .V 1, 1)] 1 (.P (.V 0) (.N 1)) (.V 1) rfl hq hk (Nat.le_of_eq hsz.symm)))]
    by_cases h : k < q * wd
    · rw [if_neg (by (exact fun he9 => Ar.fal (Ar.go [_, _, _, _] [(.P (.V 0) (.N 1), .V 1, 1), (.P (.V 1) (.V 2), .P (.V 3) (.V 2), 1), (.V 3, .V 0, 1)] 1 (.N 1) (.N 0) rfl h (Ar.up _ _) he9.1)))]
      exact turnAll_get b wd hw q (by (exact Ar.go [_, _, _] [(.P (.V 0) (.V 2), .V 1, 1)] 1 (.V 0) (.V 1) rfl hq)) k h
    · rw [if_pos (by (exact ⟨Ar.go [_, _, _, _] [(.V 2, .V 1, 1), (.P (.V 0) (.V 3), .P (.V 2) (.V 3), 1)] 1 (.V 0) (.V 1) rfl (Nat.le_of_not_lt h) (Ar.dn (Ar.go [_, _] [] 1 (.V 0) (.P (.V 1) (.V 0)) rfl)), Ar.go [_, _, _] [(.P (.V 0) (.N 1), .P (.V 1) (.V 2), 1)] 1 (.P (.V 0) (.N 1)) (.P (.V 1) (.V 2)) rfl hk⟩))]
      have h1 : k / wd = q := by
        rw [Nat.div_eq_iff hw]
        (exact ⟨Ar.go [_, _] [(.V 0, .V 1, 1)] 1 (.V 0) (.V 1) rfl (Nat.le_of_not_lt h), Ar.go [_, _, _, _] [(.P (.V 0) (.N 1), .P (.V 2) (.V 3), 1), (.P (.V 2) (.V 3), .P (.V 1) (.N 1), 1)] 1 (.V 0) (.V 1) rfl hk (Ar.up _ _)⟩)
      have h2 := Nat.div_add_mod k wd
      rw [h1, Nat.mul_comm] at h2
      unfold sig
      rw [h1]
      congr 1
      (exact Nat.le_antisymm (Ar.go [_, _, _, _, _, _, _, _] [(.P (.V 0) (.V 3), .V 4, 1), (.V 5, .P (.V 2) (.V 3), 1), (.V 6, .P (.V 5) (.N 1), 1), (.P (.V 1) (.V 4), .V 7, 1), (.P (.V 7) (.N 1), .P (.V 0) (.V 6), 1)] 1 (.P (.V 0) (.V 1)) (.P (.V 0) (.V 2)) rfl (Nat.le_of_eq h2) (Ar.up _ _) (Ar.up _ _) (Ar.dn (Ar.go [_, _, _, _] [(.P (.V 0) (.N 1), .P (.V 2) (.V 3), 1), (.P (.V 2) (.V 3), .P (.V 1) (.N 1), 1)] 1 (.V 0) (.V 1) rfl hk (Ar.up _ _))) (Ar.dn (Ar.go [_, _] [(.P (.N 0) (.N 1), .V 1, 1)] 1 (.N 1) (.P (.V 0) (.V 1)) rfl hw))) (Ar.go [_, _, _, _, _, _, _, _] [(.V 3, .P (.V 0) (.V 4), 1), (.V 5, .P (.V 2) (.V 3), 1), (.P (.V 0) (.V 6), .P (.V 5) (.N 1), 1), (.P (.V 1) (.V 4), .V 7, 1), (.P (.V 7) (.N 1), .V 6, 1)] 1 (.P (.V 0) (.V 1)) (.P (.V 0) (.V 2)) rfl (Nat.le_of_eq h2.symm) (Ar.up _ _) (Ar.up _ _) (Ar.dn (Ar.go [_, _, _, _, _] [(.P (.V 2) (.N 1), .P (.V 3) (.V 4), 1), (.P (.V 3) (.V 0), .V 2, 1), (.V 4, .P (.V 1) (.N 1), 1)] 1 (.V 0) (.V 1) rfl hk (Nat.le_of_eq h2) (Ar.up _ _))) (Ar.dn (Ar.go [_] [(.P (.N 0) (.N 1), .V 0, 1)] 1 (.N 1) (.V 0) rfl hw))))
theorem swapB_get {b : Array UInt8} {wd : Nat} (hw : 0 < wd) (hd : b.size % wd = 0) {k : Nat} (hk : k < b.size) : (swapB b wd)[k]! = b[sig wd k]! := by
  have e : b.size / wd * wd = b.size := Nat.div_mul_cancel (Nat.dvd_of_mod_eq_zero hd)
  exact turnAll_get b wd hw (b.size / wd) (by (exact Ar.go [_, _] [(.V 0, .V 1, 1)] 1 (.V 0) (.V 1) rfl (Nat.le_of_eq e))) k (by (exact Ar.go [_, _, _] [(.P (.V 0) (.N 1), .V 2, 1), (.V 2, .V 1, 1)] 1 (.P (.V 0) (.N 1)) (.V 1) rfl hk (Nat.le_of_eq e.symm)))
theorem sig_lt {n wd k : Nat} (hw : 0 < wd) (hd : n % wd = 0) (hk : k < n) : sig wd k < n := by
  have e : n / wd * wd = n := Nat.div_mul_cancel (Nat.dvd_of_mod_eq_zero hd)
  have h1 : k / wd < n / wd := Nat.div_lt_div_of_lt_of_dvd (Nat.dvd_of_mod_eq_zero hd) hk
  have h2 : (k / wd + 1) * wd ≤ n / wd * wd := Nat.mul_le_mul_right _ h1
  rw [Nat.succ_mul, e] at h2
  unfold sig
  (exact Ar.go [_, _, _, _, _] [(.P (.V 0) (.V 3), .V 2, 1), (.V 1, .V 4, 1), (.P (.V 4) (.N 1), .V 3, 1)] 1 (.P (.P (.V 0) (.V 1)) (.N 1)) (.V 2) rfl h2 (Nat.sub_le _ _) (Ar.dn (Ar.go [_] [(.P (.N 0) (.N 1), .V 0, 1)] 1 (.N 1) (.V 0) rfl hw)))
theorem sig_sig {wd k : Nat} (hw : 0 < wd) : sig wd (sig wd k) = k := by
  have hm := Nat.mod_lt k hw
  have h2 := Nat.div_add_mod k wd
  have h1 : sig wd k / wd = k / wd := by
    rw [Nat.div_eq_iff hw]
    unfold sig
    (exact ⟨Ar.go [_, _] [] 1 (.V 0) (.P (.V 0) (.V 1)) rfl, Ar.go [_, _, _, _, _] [(.V 1, .V 3, 1), (.P (.V 0) (.V 4), .P (.V 2) (.N 1), 1), (.P (.V 3) (.N 1), .V 4, 1)] 1 (.P (.V 0) (.V 1)) (.V 2) rfl (Nat.sub_le _ _) (Ar.up _ _) (Ar.dn (Ar.go [_] [(.P (.N 0) (.N 1), .V 0, 1)] 1 (.N 1) (.V 0) rfl hw))⟩)
  have h3 : sig wd k % wd = wd - 1 - k % wd := by
    unfold sig
    rw [Nat.mul_add_mod_self_right, Nat.mod_eq_of_lt (by (exact Ar.go [_, _, _] [(.V 0, .V 2, 1), (.P (.V 2) (.N 1), .V 1, 1)] 1 (.P (.V 0) (.N 1)) (.V 1) rfl (Nat.sub_le _ _) (Ar.dn (Ar.go [_] [(.P (.N 0) (.N 1), .V 0, 1)] 1 (.N 1) (.V 0) rfl hw))))]
  show sig wd k / wd * wd + (wd - 1 - sig wd k % wd) = k
  rw [h1, h3, Nat.mul_comm]
  (exact Nat.le_antisymm (Ar.go [_, _, _, _, _, _] [(.P (.V 0) (.V 3), .V 2, 1), (.V 4, .P (.V 5) (.V 3), 1), (.P (.V 1) (.V 5), .V 4, 1)] 1 (.P (.V 0) (.V 1)) (.V 2) rfl (Nat.le_of_eq h2) (Ar.up _ _) (Ar.dn (Ar.go [_, _] [(.V 0, .V 1, 1)] 1 (.V 0) (.V 1) rfl (Nat.sub_le _ _)))) (Ar.go [_, _, _, _, _, _] [(.V 0, .P (.V 1) (.V 3), 1), (.V 4, .P (.V 2) (.V 5), 1), (.P (.V 5) (.V 3), .V 4, 1)] 1 (.V 0) (.P (.V 1) (.V 2)) rfl (Nat.le_of_eq h2.symm) (Ar.up _ _) (Ar.dn (Ar.go [_, _, _] [(.P (.V 0) (.N 1), .V 2, 1), (.V 2, .P (.V 1) (.N 1), 1)] 1 (.V 0) (.V 1) rfl hm (Ar.up _ _)))))
theorem arr_ext {a b : Array UInt8} (hs : a.size = b.size) (h : ∀ k, k < a.size → a[k]! = b[k]!) : a = b := by
  apply Array.ext hs
  intro k h1 h2
  have := h k h1
  rwa [getElem!_pos a k h1, getElem!_pos b k h2] at this
theorem swap_swap {b : Array UInt8} {wd : Nat} (hw : 0 < wd) (hd : b.size % wd = 0) : swapB (swapB b wd) wd = b := by
  refine arr_ext (by rw [swapB_size, swapB_size]) fun k hk => ?_
  rw [swapB_size, swapB_size] at hk
  rw [swapB_get hw (by rw [swapB_size]; exact hd) (by rw [swapB_size]; exact hk), swapB_get hw hd (sig_lt hw hd hk), sig_sig hw]
theorem pieces_get (b : Array UInt8) (wd : Nat) (hw : 0 < wd) : ∀ i, i * wd ≤ b.size → ((pieces b wd i).flatMap (·.toList)).length = i * wd ∧ ∀ k, k < i * wd → ((pieces b wd i).flatMap (·.toList))[k]? = b[sig wd k]?
  | 0, _ => ⟨by simp [pieces], fun k hk => by lia⟩
  | i + 1, hi => by
    rw [Nat.succ_mul] at hi
    obtain ⟨h1, h2⟩ := pieces_get b wd hw i (by (exact Ar.go [_, _, _] [(.P (.V 0) (.V 2), .V 1, 1)] 1 (.V 0) (.V 1) rfl hi))
    have e : pieces b wd (i + 1) = pieces b wd i ++ [piece b wd i] := by unfold pieces; rw [List.range_succ, List.map_append]; rfl
    have e2 : ([piece b wd i].flatMap (·.toList)) = ((b.toList.drop (i * wd)).take wd).reverse := by simp [piece]
    rw [e, List.flatMap_append, e2]
    have hl : (((b.toList.drop (i * wd)).take wd).reverse).length = wd := by simp; (exact Nat.le_antisymm (Ar.go [_, _] [(.V 0, .V 1, 1)] 1 (.V 0) (.V 1) rfl (Nat.min_le_left _ _)) (Ar.go [_, _] [(.V 0, .V 1, 1)] 1 (.V 0) (.V 1) rfl (Nat.le_of_eq (Nat.min_eq_left (Ar.go [_, _, _, _] [(.P (.V 2) (.V 0), .V 3, 1), (.V 3, .P (.V 1) (.V 2), 1)] 1 (.V 0) (.V 1) rfl hi (Ar.up _ _))).symm)))
    refine ⟨by rw [List.length_append, h1, hl, Nat.succ_mul], fun k hk => ?_⟩
    rw [Nat.succ_mul] at hk
    by_cases h : k < i * wd
    · rw [List.getElem?_append_left (by (exact Ar.go [_, _, _] [(.V 2, .V 1, 1), (.P (.V 0) (.N 1), .V 2, 1)] 1 (.P (.V 0) (.N 1)) (.V 1) rfl (Nat.le_of_eq h1.symm) h))]
      exact h2 k h
    · rw [List.getElem?_append_right (by (exact Ar.go [_, _, _] [(.V 0, .V 2, 1), (.V 2, .V 1, 1)] 1 (.V 0) (.V 1) rfl (Nat.le_of_eq h1) (Nat.le_of_not_lt h))), h1]
      have hdv : k / wd = i := by rw [Nat.div_eq_iff hw]; (exact ⟨Ar.go [_, _] [(.V 0, .V 1, 1)] 1 (.V 0) (.V 1) rfl (Nat.le_of_not_lt h), Ar.go [_, _, _, _] [(.P (.V 0) (.N 1), .P (.V 2) (.V 3), 1), (.P (.V 2) (.V 3), .P (.V 1) (.N 1), 1)] 1 (.V 0) (.V 1) rfl hk (Ar.up _ _)⟩)
      have hm := Nat.div_add_mod k wd
      rw [hdv, Nat.mul_comm] at hm
      have hkm : k - i * wd = k % wd := by (exact Nat.le_antisymm (Ar.go [_, _, _, _] [(.V 2, .P (.V 3) (.V 1), 1), (.P (.V 0) (.V 3), .V 2, 1)] 1 (.V 0) (.V 1) rfl (Nat.le_of_eq hm.symm) (Ar.dn (Ar.go [_, _] [(.V 0, .V 1, 1)] 1 (.V 0) (.V 1) rfl (Nat.le_of_not_lt h)))) (Ar.go [_, _, _, _] [(.P (.V 2) (.V 0), .V 3, 1), (.V 3, .P (.V 1) (.V 2), 1)] 1 (.V 0) (.V 1) rfl (Nat.le_of_eq hm) (Ar.up _ _)))
      rw [List.getElem?_reverse (by simp; (exact Ar.go [_, _, _, _, _, _] [(.P (.V 2) (.N 1), .P (.V 3) (.V 4), 1), (.P (.V 3) (.V 5), .V 2, 1), (.V 0, .V 5, 1), (.V 4, .V 1, 1)] 1 (.P (.V 0) (.N 1)) (.V 1) rfl hk (Nat.le_of_eq hm) (Nat.le_of_eq hkm) (Nat.le_of_eq (Nat.min_eq_left (Ar.go [_, _, _, _] [(.P (.V 2) (.V 0), .V 3, 1), (.V 3, .P (.V 1) (.V 2), 1)] 1 (.V 0) (.V 1) rfl hi (Ar.up _ _))).symm)))]
      have hl2 : ((b.toList.drop (i * wd)).take wd).length = wd := by simp; (exact Nat.le_antisymm (Ar.go [_, _] [(.V 0, .V 1, 1)] 1 (.V 0) (.V 1) rfl (Nat.min_le_left _ _)) (Ar.go [_, _] [(.V 0, .V 1, 1)] 1 (.V 0) (.V 1) rfl (Nat.le_of_eq (Nat.min_eq_left (Ar.go [_, _, _, _] [(.P (.V 2) (.V 0), .V 3, 1), (.V 3, .P (.V 1) (.V 2), 1)] 1 (.V 0) (.V 1) rfl hi (Ar.up _ _))).symm)))
      rw [hl2, hkm, List.getElem?_take_of_lt (by (exact Ar.go [_, _, _] [(.V 0, .V 2, 1), (.P (.V 2) (.N 1), .V 1, 1)] 1 (.P (.V 0) (.N 1)) (.V 1) rfl (Nat.sub_le _ _) (Ar.dn (Ar.go [_] [(.P (.N 0) (.N 1), .V 0, 1)] 1 (.N 1) (.V 0) rfl hw)))), List.getElem?_drop]
      unfold sig
      rw [hdv]
      simp
theorem round_swap {b : Array UInt8} {wd : Nat} (hw : 0 < wd) (hd : b.size % wd = 0) : roundB b wd = swapB b wd := by
  have e : b.size / wd * wd = b.size := Nat.div_mul_cancel (Nat.dvd_of_mod_eq_zero hd)
  obtain ⟨h1, h2⟩ := pieces_get b wd hw (b.size / wd) (by (exact Ar.go [_, _] [(.V 0, .V 1, 1)] 1 (.V 0) (.V 1) rfl (Nat.le_of_eq e)))
  have hs : (roundB b wd).size = b.size := by unfold roundB; rw [List.size_toArray, h1, e]
  refine arr_ext (by rw [hs, swapB_size]) fun k hk => ?_
  rw [hs] at hk
  rw [swapB_get hw hd hk]
  have := h2 k (by (exact Ar.go [_, _, _] [(.V 2, .V 1, 1), (.P (.V 0) (.N 1), .V 2, 1)] 1 (.P (.V 0) (.N 1)) (.V 1) rfl (Nat.le_of_eq e.symm) hk))
  unfold roundB
  rw [getElem!_def, getElem!_def]
  simp only [List.getElem?_toArray, this]
end Mine
end
section
open PySem PySem.W PyProof.Rows
namespace Mine
noncomputable abbrev sl : Str := Str.ofString "/"
theorem sl_eq : sl = ⟨#[47]⟩ := by decide +kernel
noncomputable def toL (x : Str) : List Nat := x.cps.toList
theorem toL_inj {x y : Str} (h : toL x = toL y) : x = y := by
  cases x; cases y
  exact congrArg Str.mk (Array.toList_inj.mp h)
theorem toL_app (x y : Str) : toL (x ++ y) = toL x ++ toL y := Array.toList_append
theorem toL_len (x : Str) : (toL x).length = x.length := by unfold toL; simp; rfl
theorem toL_sl : toL sl = [47] := by rw [sl_eq]; rfl
theorem sjoin_cons (y : Str) (a b : Str) (r : List Str) : Str.join y (a :: b :: r) = a ++ y ++ Str.join y (b :: r) := rfl
noncomputable def Free (x : Str) : Prop := 47 ∉ toL x
theorem app_free : ∀ {u v s t : List Nat}, 47 ∉ u → 47 ∉ v → u ++ 47 :: s = v ++ 47 :: t → u = v ∧ s = t
  | [], [], _, _, _, _, h => ⟨rfl, List.cons.inj h |>.2⟩
  | [], b :: v, _, _, _, hv, h => absurd (List.cons.inj h).1 fun e => hv (by rw [e]; exact .head _)
  | a :: u, [], _, _, hu, _, h => absurd (List.cons.inj h).1 fun e => hu (by rw [← e]; exact .head _)
  | a :: u, b :: v, _, _, hu, hv, h => by
    obtain ⟨h1, h2⟩ := List.cons.inj h
    obtain ⟨h3, h4⟩ := app_free (fun q => hu (.tail _ q)) (fun q => hv (.tail _ q)) h2
    exact ⟨by rw [h1, h3], h4⟩
theorem toL_join (a b : Str) (r : List Str) : toL (Str.join sl (a :: b :: r)) = toL a ++ 47 :: toL (Str.join sl (b :: r)) := by
  rw [sjoin_cons, toL_app, toL_app, toL_sl]
  simp
theorem join_inj : ∀ {l l' : List Str}, l ≠ [] → l' ≠ [] → (∀ a ∈ l, Free a) → (∀ a ∈ l', Free a) → Str.join sl l = Str.join sl l' → l = l'
  | [], _, h, _, _, _, _ => absurd rfl h
  | _, [], _, h, _, _, _ => absurd rfl h
  | [a], [b], _, _, _, _, h => congrArg (fun x => [x]) h
  | [a], b :: c :: r, _, _, ha, hb, h => by
    have e := congrArg toL h
    rw [toL_join] at e
    exact absurd (show 47 ∈ toL a by rw [show toL a = toL (Str.join sl [a]) from rfl, e]; simp) (ha a (.head _))
  | a :: c :: r, [b], _, _, ha, hb, h => by
    have e := congrArg toL h
    rw [toL_join] at e
    exact absurd (show 47 ∈ toL b by rw [show toL b = toL (Str.join sl [b]) from rfl, ← e]; simp) (hb b (.head _))
  | a :: c :: r, b :: d :: r', _, _, ha, hb, h => by
    have e := congrArg toL h
    rw [toL_join, toL_join] at e
    obtain ⟨e1, e2⟩ := app_free (ha a (.head _)) (hb b (.head _)) e
    rw [toL_inj e1, join_inj (List.cons_ne_nil _ _) (List.cons_ne_nil _ _) (fun x q => ha x (.tail _ q)) (fun x q => hb x (.tail _ q)) (toL_inj e2)]
theorem tjoin (l : List Str) : Txt.join sl l = Str.join sl l := StrLaws.glued_eq_join _ _
theorem split_join {l : List Str} (hn : l ≠ []) (hf : ∀ a ∈ l, Free a) : Txt.split (Txt.join sl l) sl = l := by
  have h := StrLaws.join_split (Txt.join sl l) sl
  rw [tjoin] at h
  rw [tjoin]
  refine join_inj (fun q => ?_) hn (fun a ha => ?_) hf h
  · have := fact_split (Str.join sl l) sl
    rw [q] at this
    simp at this
  · rw [sl_eq] at ha
    exact StrLaws.split_free _ 47 a ha
theorem str_assoc (a b c : Str) : a ++ b ++ c = a ++ (b ++ c) := toL_inj (by simp only [toL_app, List.append_assoc])
theorem join_snoc : ∀ (l : List Str) (c : Str), l ≠ [] → Str.join sl (l ++ [c]) = Str.join sl l ++ (sl ++ c)
  | [], _, h => absurd rfl h
  | [a], c, _ => by rw [List.singleton_append, sjoin_cons]; exact str_assoc _ _ _
  | a :: b :: r, c, _ => by
    have ih := join_snoc (b :: r) c (List.cons_ne_nil _ _)
    rw [List.cons_append, List.cons_append, sjoin_cons, sjoin_cons, str_assoc _ (Str.join sl (b :: r)), ← ih]
    rfl
theorem ends_no {u b : Str} (hb : Free b) (h0 : b.length ≠ 0) : Txt.endswith (u ++ b) sl = false := by
  unfold Txt.endswith Builtin.Str.subAt
  rw [Bool.and_eq_false_iff]
  refine .inr (beq_eq_false_iff_ne.mpr fun e => ?_)
  have e2 := congrArg Array.toList e
  have hs : sl.length = 1 := by rw [sl_eq]; rfl
  have hl : (u ++ b).length = u.length + b.length := Str.length_append _ _
  have h47 : sl.cps.toList = [47] := toL_sl
  rw [h47, hs, hl] at e2
  have hm : 47 ∈ toL b := by
    have e3 : (toL u ++ toL b).extract (u.length + b.length - 1) (u.length + b.length - 1 + 1) = [47] := by
      rw [← toL_app]
      unfold toL
      rw [← e2, Array.toList_extract]
    have l1 := toL_len u
    rw [List.extract_eq_take_drop, List.drop_append, List.drop_of_length_le (by (exact Ar.go [_, _, _, _] [(.V 0, .V 2, 1), (.P (.V 2) (.V 3), .P (.V 1) (.N 1), 1), (.P (.N 0) (.N 1), .V 3, 1)] 1 (.V 0) (.V 1) rfl (Nat.le_of_eq l1) (Ar.up _ _) (Nat.lt_of_le_of_ne (Ar.go [_] [] 1 (.N 0) (.V 0) rfl) (Ne.symm h0)))), List.nil_append] at e3
    have : 47 ∈ (toL b).drop (u.length + b.length - 1 - (toL u).length) := List.mem_of_mem_take (by rw [e3]; exact .head _)
    exact List.mem_of_mem_drop this
  exact hb hm
theorem range_nat (a b : Nat) : sliceRange (a : Int) (b : Int) 1 = (List.range (b - a)).map fun j => a + j := by
  unfold sliceRange
  rw [if_pos (by decide)]
  have e : (if (a : Int) < b then ((b : Int) - a + 1 - 1) / 1 else 0).toNat = b - a := by
    split
    · rw [Int.ediv_one]; lia
    · lia
  dsimp only
  rw [e]
  refine List.map_congr_left fun k _ => ?_
  lia
theorem pick_range {α : Type} (l : List α) (a : Nat) : ∀ k, (List.range k).filterMap (fun j => l[a + j]?) = (l.drop a).take k
  | 0 => by simp
  | k + 1 => by
    rw [List.range_succ, List.filterMap_append, pick_range l a k, List.take_add_one, List.getElem?_drop]
    cases h : l[a + k]? <;> simp [h]
theorem slice_toL {x : Str} {l u : Option Int} {lo hi : Nat} (e : Builtin.Str.strSliceIndices l u 1 x.length = (List.range (hi - lo)).map fun j => lo + j) (h : hi ≤ x.length) : toL (Txt.slice x l u) = ((toL x).drop lo).take (hi - lo) := by
  unfold Txt.slice
  rw [e]
  have hl := toL_len x
  split
  · rename_i h1
    have h2 : hi - lo = x.length := by
      have := (Bool.and_eq_true_iff.mp h1).2
      simpa using this
    by_cases h0 : lo = 0
    · subst h0
      rw [List.drop_zero, List.take_of_length_le (by (exact Ar.go [_, _, _] [(.V 0, .V 2, 1), (.V 2, .V 1, 1)] 1 (.V 0) (.V 1) rfl (Nat.le_of_eq hl) (Nat.le_of_eq h2.symm)))]
    · have h3 : x.length = 0 := by lia
      have h4 : toL x = [] := List.eq_nil_of_length_eq_zero (by (exact Nat.le_antisymm (Ar.go [_, _] [(.V 0, .V 1, 1), (.V 1, .N 0, 1)] 1 (.V 0) (.N 0) rfl (Nat.le_of_eq hl) (Nat.le_of_eq h3)) (Ar.go [_] [] 1 (.N 0) (.V 0) rfl)))
      rw [h4]; simp
  · rw [List.filterMap_map, ← pick_range]
    show List.filterMap _ _ = List.filterMap _ _
    congr 1
    funext j
    unfold toL
    simp
theorem slice_from {x : Str} (h : 1 ≤ x.length) : toL (Txt.slice x (some 1) none) = (toL x).drop 1 := by
  have hl := toL_len x
  rw [slice_toL (lo := 1) (hi := x.length) ?_ (Nat.le_refl _), List.take_of_length_le (by rw [List.length_drop]; (exact Ar.go [_, _, _, _] [(.V 2, .V 3, 1), (.V 3, .P (.V 1) (.N 1), 1), (.P (.V 0) (.N 1), .V 2, 1)] 1 (.V 0) (.V 1) rfl (Nat.le_of_eq hl) (Ar.up _ _) (Ar.dn (Ar.go [_, _] [(.N 1, .V 1, 1), (.V 1, .V 0, 1)] 1 (.N 1) (.V 0) rfl h (Nat.le_of_eq hl.symm)))))]
  rw [← range_nat]
  unfold Builtin.Str.strSliceIndices
  simp
  congr 1
  lia
theorem slice_to {x : Str} (h : 1 ≤ x.length) : toL (Txt.slice x none (some 1)) = (toL x).take 1 := by
  rw [slice_toL (lo := 0) (hi := 1) ?_ h, List.drop_zero]
  rw [← range_nat]
  unfold Builtin.Str.strSliceIndices
  simp
  congr 1
  lia
theorem slice_mid {x : Str} (h : 2 ≤ x.length) : toL (Txt.slice x (some 1) (some 2)) = ((toL x).drop 1).take 1 := by
  rw [slice_toL (lo := 1) (hi := 2) ?_ h]
  rw [← range_nat]
  unfold Builtin.Str.strSliceIndices
  simp
  congr 1 <;> lia
end Mine
end
section
open Mine.h34 Mine.h30
open PySem PySem.Spec PySem.Calls PySem.W PyProof.Rows
namespace Mine
variable {p : Program} {loose : List Str} {w : World} {mean : ExcName → Option Value} {mg mb : Str → Option Value}
set_option maxHeartbeats 4000000
theorem sep_spec (x : Str) (t : Tok) : Spec p loose w mean mg mb 131 4 40 [.str x t] [] (RStr (Str.ofString "/")) := by
  unfold Spec; k_fill
  intro dp un gd cn cs a ccd cl outer A₀ base h₀ L m news s Q E B F X N T hk hneed hd hu hret
  refine wpAny_call ?_
  (refine' code_def ?k1 ?k2 ?k3 ?k4 ?k5 ?kA ?kF ?kK ?k6 ?k7 ?k8 ?k9 ?kB ?_ ?c2 ?c3 ?c4 ?c5; (case kA | kF => exact rfl); (case kK => assumption); (case k1 | k2 | k3 | k4 | k5 => k_asm); (case k6 | k7 => k_is); (case k8 => ktr_room); (case k9 => first | exact BindsTo.of_eq rfl | exact binds_K (by k_in) rfl (by k_is) rfl rfl rfl); (case c5 => decide); (case kB => exact locs rfl); (case c2 | c3 | c4 => exact rfl); k_whole; intro _ _ _ _ _ _ _ _ _; (try dsimp only); (try k_fold))
  k_steps
  all_goals exact ret_str hret rfl (by k_asm) (by k_asm)

theorem fspath_spec (x : Str) (t : Tok) : Spec p loose w mean mg mb 117 4 40 [.str x t] [] (fun P => P (.str x t) []) := by
  unfold Spec; k_fill
  intro dp un gd cn cs a ccd cl outer A₀ base h₀ L m news s Q E B F X N T hk hneed hd hu hret
  refine wpAny_call ?_
  (refine' code_def ?k1 ?k2 ?k3 ?k4 ?k5 ?kA ?kF ?kK ?k6 ?k7 ?k8 ?k9 ?kB ?_ ?c2 ?c3 ?c4 ?c5; (case kA | kF => exact rfl); (case kK => assumption); (case k1 | k2 | k3 | k4 | k5 => k_asm); (case k6 | k7 => k_is); (case k8 => ktr_room); (case k9 => first | exact BindsTo.of_eq rfl | exact binds_K (by k_in) rfl (by k_is) rfl rfl rfl); (case c5 => decide); (case kB => exact locs rfl); (case c2 | c3 | c4 => exact rfl); k_whole; intro _ _ _ _ _ _ _ _ _; (try dsimp only); (try k_fold))
  (k_steps; repeat (any_goals (refine Halt.go ?_; refine' issub_call (by exact News.get (by k_asm) (by k_mem)) ?_; intro _; (try dsimp only); k_steps)))
  all_goals exact hret _ _ (by k_asm) (by exact cb_drop (by k_asm) (by kcj_all))

theorem base_spec (x : Str) (t : Tok) (hx : x.length ≤ 100000) : Spec p loose w mean mg mb 152 8 80 [.str x t] [] (RStr (Txt.slice x (some (Txt.rfind x (Str.ofString "/") + 1)) none)) := by
  unfold Spec; k_fill
  intro dp un gd cn cs a ccd cl outer A₀ base h₀ L m news s Q E B F X N T hk hneed hd hu hret
  refine wpAny_call ?_
  (refine' code_def ?k1 ?k2 ?k3 ?k4 ?k5 ?kA ?kF ?kK ?k6 ?k7 ?k8 ?k9 ?kB ?_ ?c2 ?c3 ?c4 ?c5; (case kA | kF => exact rfl); (case kK => assumption); (case k1 | k2 | k3 | k4 | k5 => k_asm); (case k6 | k7 => k_is); (case k8 => ktr_room); (case k9 => first | exact BindsTo.of_eq rfl | exact binds_K (by k_in) rfl (by k_is) rfl rfl rfl); (case c5 => decide); (case kB => exact locs rfl); (case c2 | c3 | c4 => exact rfl); k_whole; intro _ _ _ _ _ _ _ _ _; (try dsimp only); (try k_fold))
  (k_steps; repeat (any_goals (refine Halt.go ?_; (first | ((with_reducible show wpAny _ _ (call (Value.ref 131) [Value.str _ _]) _ _ _); k_dflt (refine' spec_use (sep_spec _ _) (by k_asm) (by k_asm) (by k_asm) (by k_asm) (by k_asm) (by first | exact rfl | assumption) (by exact fun _ h => nomatch h) (by ktr_room) (by ktr_units) ?_); intro _ _ _ _ zN; (dsimp only [List.nil_append, List.cons_append] at zN); (revert zN; intro _); (try dsimp only); (try k_fold)) | ((with_reducible show wpAny _ _ (call (Value.ref 117) [Value.str _ _]) _ _ _); k_dflt (refine' spec_use (fspath_spec _ _) (by k_asm) (by k_asm) (by k_asm) (by k_asm) (by k_asm) (by first | exact rfl | assumption) (by exact fun _ h => nomatch h) (by ktr_room) (by ktr_units) ?_); intro _ _ _ zN; (dsimp only [List.nil_append, List.cons_append] at zN); (revert zN; intro _); (try dsimp only); (try k_fold))); k_steps)))
  all_goals exact ret_str hret rfl (by k_asm) (by k_asm)
noncomputable def dirOf (x : Str) : Str :=
  if ((Txt.slice x none (some (Txt.rfind x (Str.ofString "/") + 1))).length : Int) = 0 then Txt.slice x none (some (Txt.rfind x (Str.ofString "/") + 1))
  else if (Txt.slice x none (some (Txt.rfind x (Str.ofString "/") + 1)) != Txt.mul (Str.ofString "/") ((Txt.slice x none (some (Txt.rfind x (Str.ofString "/") + 1))).length : Int)) = true then Txt.rstripChars (Txt.slice x none (some (Txt.rfind x (Str.ofString "/") + 1))) (Str.ofString "/")
  else Txt.slice x none (some (Txt.rfind x (Str.ofString "/") + 1))
theorem dir_spec (x : Str) (t : Tok) (hx : x.length ≤ 100000) : Spec p loose w mean mg mb 159 8 80 [.str x t] [] (RStr (dirOf x)) := by
  unfold Spec; k_fill
  intro dp un gd cn cs a ccd cl outer A₀ base h₀ L m news s Q E B F X N T hk hneed hd hu hret
  refine wpAny_call ?_
  (refine' code_def ?k1 ?k2 ?k3 ?k4 ?k5 ?kA ?kF ?kK ?k6 ?k7 ?k8 ?k9 ?kB ?_ ?c2 ?c3 ?c4 ?c5; (case kA | kF => exact rfl); (case kK => assumption); (case k1 | k2 | k3 | k4 | k5 => k_asm); (case k6 | k7 => k_is); (case k8 => ktr_room); (case k9 => first | exact BindsTo.of_eq rfl | exact binds_K (by k_in) rfl (by k_is) rfl rfl rfl); (case c5 => decide); (case kB => exact locs rfl); (case c2 | c3 | c4 => exact rfl); k_whole; intro _ _ _ _ _ _ _ _ _; (try dsimp only); (try k_fold))
  (k_steps; repeat (any_goals (refine Halt.go ?_; (first | ((with_reducible show wpAny _ _ (call (Value.ref 131) [Value.str _ _]) _ _ _); k_dflt (refine' spec_use (sep_spec _ _) (by k_asm) (by k_asm) (by k_asm) (by k_asm) (by k_asm) (by first | exact rfl | assumption) (by exact fun _ h => nomatch h) (by ktr_room) (by ktr_units) ?_); intro _ _ _ _ zN; (dsimp only [List.nil_append, List.cons_append] at zN); (revert zN; intro _); (try dsimp only); (try k_fold)) | ((with_reducible show wpAny _ _ (call (Value.ref 117) [Value.str _ _]) _ _ _); k_dflt (refine' spec_use (fspath_spec _ _) (by k_asm) (by k_asm) (by k_asm) (by k_asm) (by k_asm) (by first | exact rfl | assumption) (by exact fun _ h => nomatch h) (by ktr_room) (by ktr_units) ?_); intro _ _ _ zN; (dsimp only [List.nil_append, List.cons_append] at zN); (revert zN; intro _); (try dsimp only); (try k_fold))); k_steps)))
  all_goals (refine ret_str hret ?_ (by k_asm) (by k_asm); unfold dirOf; first | (rw [if_pos (by assumption)]; done) | (rw [if_neg (by assumption), if_pos (by assumption)]; done) | (rw [if_neg (by assumption), if_neg (nt (by assumption))]; done))
theorem root_spec (x : Str) (t : Tok) (hx : x.length ≤ 100000) (h1 : (Txt.slice x none (some 1) != Str.ofString "/") = false) (h2 : (Txt.slice x (some 1) (some 2) != Str.ofString "/") = true) :
  Spec p loose w mean mg mb 145 8 80 [.str x t] [] (fun P => ∀ a t1 t2 t3, P (.ref a) [(a, { cls := .type "tuple", data := .seq #[.str (Str.ofString "") t1, .str (Str.ofString "/") t2, .str (Txt.slice x (some 1) none) t3] })]) := by
  unfold Spec; k_fill
  intro dp un gd cn cs a ccd cl outer A₀ base h₀ L m news s Q E B F X N T hk hneed hd hu hret
  refine wpAny_call ?_
  (refine' code_def ?k1 ?k2 ?k3 ?k4 ?k5 ?kA ?kF ?kK ?k6 ?k7 ?k8 ?k9 ?kB ?_ ?c2 ?c3 ?c4 ?c5; (case kA | kF => exact rfl); (case kK => assumption); (case k1 | k2 | k3 | k4 | k5 => k_asm); (case k6 | k7 => k_is); (case k8 => ktr_room); (case k9 => first | exact BindsTo.of_eq rfl | exact binds_K (by k_in) rfl (by k_is) rfl rfl rfl); (case c5 => decide); (case kB => exact locs rfl); (case c2 | c3 | c4 => exact rfl); k_whole; intro _ _ _ _ _ _ _ _ _; (try dsimp only); (try k_fold))
  (k_steps; repeat (any_goals (refine Halt.go ?_; (first | ((with_reducible show wpAny _ _ (call (Value.ref 131) [Value.str _ _]) _ _ _); k_dflt (refine' spec_use (sep_spec _ _) (by k_asm) (by k_asm) (by k_asm) (by k_asm) (by k_asm) (by first | exact rfl | assumption) (by exact fun _ h => nomatch h) (by ktr_room) (by ktr_units) ?_); intro _ _ _ _ zN; (dsimp only [List.nil_append, List.cons_append] at zN); (revert zN; intro _); (try dsimp only); (try k_fold)) | ((with_reducible show wpAny _ _ (call (Value.ref 117) [Value.str _ _]) _ _ _); k_dflt (refine' spec_use (fspath_spec _ _) (by k_asm) (by k_asm) (by k_asm) (by k_asm) (by k_asm) (by first | exact rfl | assumption) (by exact fun _ h => nomatch h) (by ktr_room) (by ktr_units) ?_); intro _ _ _ zN; (dsimp only [List.nil_append, List.cons_append] at zN); (revert zN; intro _); (try dsimp only); (try k_fold))); k_steps)))
  all_goals first | (exfalso; simp_all; done) | exact hret _ _ _ _ _ _ (by k_asm) (by k_asm)
end Mine
end
section
open Mine.h30
open PySem PySem.Spec PySem.Calls PySem.W PyProof.Rows
namespace Mine
variable {p : Program} {loose : List Str} {w : World} {mean : ExcName → Option Value} {mg mb : Str → Option Value}

set_option maxHeartbeats 4000000
noncomputable def jn (y b : Str) : Str := if Txt.endswith y (Str.ofString "/") = true then y ++ b else y ++ (Str.ofString "/" ++ b)
noncomputable def joinAt (x : Str) (bs : List Str) (i : Nat) : Str := (bs.take i).foldl jn x
theorem joinAt_succ {x : Str} {bs : List Str} {i : Nat} {b : Str} (h : bs[i]? = some b) : joinAt x bs (i + 1) = jn (joinAt x bs i) b := by
  unfold joinAt
  rw [List.take_add_one, h]
  simp
theorem jn_len (y b : Str) : y.length ≤ (jn y b).length ∧ (jn y b).length ≤ y.length + b.length + 1 := by
  unfold jn
  have h1 : (Str.ofString "/").length = 1 := by decide +kernel
  split <;> simp only [Str.length_append, h1] <;> lia
theorem joinAt_len (x : Str) (bs : List Str) (hb : ∀ b ∈ bs, b.length ≤ 1000) : ∀ i, x.length ≤ (joinAt x bs i).length ∧ (joinAt x bs i).length ≤ x.length + i * 1001
  | 0 => by simp [joinAt]
  | i + 1 => by
    have ih := joinAt_len x bs hb i
    cases h : bs[i]? with
    | none =>
      have : joinAt x bs (i + 1) = joinAt x bs i := by
        unfold joinAt
        rw [List.take_add_one, h]
        simp
      rw [this]
      lia
    | some b =>
      rw [joinAt_succ h]
      have h2 := jn_len (joinAt x bs i) b
      have h3 := hb b (List.mem_of_getElem? h)
      lia
theorem join_spec (x nm : Str) (t t1 t2 t3 tn : Tok) (hx : x.length ≤ 100000) (hx0 : 0 < x.length) (hn : nm.length ≤ 1000) (hs : Txt.startswith nm (Str.ofString "/") = false) :
  Spec p loose w mean mg mb 138 8 80 [.str x t, .str (Str.ofString ".") t1, .str (Str.ofString "x") t2, .str (Str.ofString "..") t3, .str nm tn] [] (RStr (joinAt x [Str.ofString ".", Str.ofString "x", Str.ofString "..", nm] 4)) := by
  unfold Spec; k_fill
  intro dp un gd cn cs a ccd cl outer A₀ base h₀ L m news s Q E B F X N T hk hneed hd hu hret
  refine wpAny_call ?_
  (refine' kp_rest ?k1 ?k2 ?k3 ?k4 ?k5 ?kA ?kF ?kK ?k6 ?k7 ?k8 ?kV ?kP ?kG ?kB ?_ ?c2 ?c3 ?c4 ?c5; (case kA | kF => exact rfl); (case kK => assumption); (case k1 | k2 | k3 | k4 | k5 => k_asm); (case k6 | k7 => k_is); (case k8 => ktr_room); (case kV => kl_lit); (case kP => exact rfl); (case kG => exact fun _ => rfl); (case kB => exact fun _ => locs rfl); (case c5 => decide); (case c2 | c3 | c4 => exact rfl); k_whole; intro _ _ _ _ zl _ _ _ _ _ _; (try k_lt zl); (try dsimp only); (try k_fold))
  (k_steps; repeat (any_goals (refine Halt.go ?_; (first | ((with_reducible show wpAny _ _ (call (Value.ref 131) [Value.str _ _]) _ _ _); k_dflt (refine' spec_use (sep_spec _ _) (by k_asm) (by k_asm) (by k_asm) (by k_asm) (by k_asm) (by first | exact rfl | assumption) (by exact fun _ h => nomatch h) (by ktr_room) (by ktr_units) ?_); intro _ _ _ _ zN; (dsimp only [List.nil_append, List.cons_append] at zN); (revert zN; intro _); (try dsimp only); (try k_fold)) | ((with_reducible show wpAny _ _ (call (Value.ref 117) [Value.str _ _]) _ _ _); k_dflt (refine' spec_use (fspath_spec _ _) (by k_asm) (by k_asm) (by k_asm) (by k_asm) (by k_asm) (by first | exact rfl | assumption) (by exact fun _ h => nomatch h) (by ktr_room) (by ktr_units) ?_); intro _ _ _ zN; (dsimp only [List.nil_append, List.cons_append] at zN); (revert zN; intro _); (try dsimp only); (try k_fold))); k_steps)))
  refine For_invVF (by k_asm) rfl rfl ?_
  k_dflt (refine ld (by k_asm) (by rfl) ?_)
  have hb : ∀ b ∈ [Str.ofString ".", Str.ofString "x", Str.ofString "..", nm], b.length ≤ 1000 ∧ Txt.startswith b (Str.ofString "/") = false := by
    intro b hb
    simp only [List.mem_cons, List.not_mem_nil, or_false] at hb
    rcases hb with rfl | rfl | rfl | rfl
    · decide +kernel
    · decide +kernel
    · decide +kernel
    · exact ⟨hn, hs⟩
  refine tup_acc (x := Str.ofString "b") (y := Str.ofString "path") (fun i t => .str (joinAt x [Str.ofString ".", Str.ofString "x", Str.ofString "..", nm] i) t) rfl (by k_asm) (by k_asm) (by assumption) (by decide) rfl ?turn ?done
  case turn =>
    intro i v t9 h9 tk9 own9 hv F9 N9
    obtain ⟨b, tb, rfl, hbi, hi⟩ : ∃ b tb, v = .str b tb ∧ [Str.ofString ".", Str.ofString "x", Str.ofString "..", nm][i]? = some b ∧ i < 4 := by
      rcases i with _ | _ | _ | _ | i
      · exact ⟨_, _, (Option.some.inj (show some _ = some v from hv)).symm, rfl, by (exact Ar.go [] [] 1 (.P (.N 0) (.N 1)) (.N 4) rfl)⟩
      · exact ⟨_, _, (Option.some.inj (show some _ = some v from hv)).symm, rfl, by (exact Ar.go [] [] 1 (.P (.P (.N 0) (.N 1)) (.N 1)) (.N 4) rfl)⟩
      · exact ⟨_, _, (Option.some.inj (show some _ = some v from hv)).symm, rfl, by (exact Ar.go [] [] 1 (.P (.P (.P (.N 0) (.N 1)) (.N 1)) (.N 1)) (.N 4) rfl)⟩
      · exact ⟨_, _, (Option.some.inj (show some _ = some v from hv)).symm, rfl, by (exact Ar.go [] [] 1 (.P (.P (.P (.P (.N 0) (.N 1)) (.N 1)) (.N 1)) (.N 1)) (.N 4) rfl)⟩
      · exact nomatch (show none = some v from hv)
    have hb1 := (hb b (List.mem_of_getElem? hbi)).1
    have hb2 := (hb b (List.mem_of_getElem? hbi)).2
    have hl := joinAt_len x _ (fun b h => (hb b h).1) i
    have hsu := joinAt_succ (x := x) hbi
    dsimp only at F9
    generalize joinAt x [Str.ofString ".", Str.ofString "x", Str.ofString "..", nm] i = y at F9 hl hsu
    have hy0 : (y.length : Int) ≠ 0 := by lia
    have hy1 : y.length ≤ 110000 := by (exact Ar.go [_, _, _] [(.V 1, .N 100000, 1), (.P (.V 2) (.N 1), .N 4, 1001), (.V 0, .P (.V 1) (.R 1001 (.V 2)), 1)] 1 (.V 0) (.N 110000) rfl hx hi hl.2)
    clear hv hbi hl hb
    (k_steps; repeat (any_goals (refine Halt.go ?_; (with_reducible show wpAny _ _ (call (Value.ref 117) [Value.str _ _]) _ _ _); k_dflt (refine' spec_use (fspath_spec _ _) (by k_asm) (by k_asm) (by k_asm) (by k_asm) (by k_asm) (by first | exact rfl | assumption) (by exact fun _ h => nomatch h) (by ktr_room) (by ktr_units) ?_); intro _ _ _ zN; (dsimp only [List.nil_append, List.cons_append] at zN); (revert zN; intro _); (try dsimp only); (try k_fold); k_steps)))
    · refine oneN (by k_asm) (by k_asm) ?_ (fun z h1 h2 => by simp only [if_neg h1, if_neg h2])
      have e9 : Txt.endswith y (Str.ofString "/") = true := by assumption
      rw [hsu, jn, if_pos e9]
      exact ⟨_, if_pos rfl⟩
    · refine oneN (by k_asm) (by k_asm) ?_ (fun z h1 h2 => by simp only [if_neg h1, if_neg h2])
      have e9 : Txt.endswith y (Str.ofString "/") = false := by assumption
      rw [hsu, jn, if_neg (nt e9)]
      exact ⟨_, if_pos rfl⟩
  case done =>
    intro u t9 h9 tk9 F9 N9
    k_steps
    all_goals exact ret_str hret rfl (by k_asm) (by k_asm)
end Mine
end
local macro_rules | `(tactic| k_all) => `(tactic| assumption)
section
open Mine.h30 Mine.h35 Mine.h23 Mine.h25
open PySem PySem.Spec PySem.Calls PySem.W PyProof.Rows
namespace Mine
variable {p : Program} {loose : List Str} {w : World} {mean : ExcName → Option Value} {mg mb : Str → Option Value}

set_option maxHeartbeats 4000000
theorem norm_spec (x : Str) (t : Tok) (st : Nat → List Str) (hx : x.length ≤ 100000) (hx0 : (x.length : Int) ≠ 0) (h1 : (Txt.slice x none (some 1) != Str.ofString "/") = false) (h2 : (Txt.slice x (some 1) (some 2) != Str.ofString "/") = true)
  (hst0 : st 0 = []) (hlen : ∀ i, (st i).length ≤ 1000) (hlen2 : ∀ i, ∀ y ∈ st i, y.length ≤ 1000) (hjl : (Txt.join (Str.ofString "/") (st (Txt.split (Txt.slice x (some 1) none) (Str.ofString "/")).length)).length ≤ 1000000)
  (hst : ∀ i c, (Txt.split (Txt.slice x (some 1) none) (Str.ofString "/"))[i]? = some c → (c = Str.ofString "." ∧ st (i + 1) = st i) ∨ ((c.length : Int) ≠ 0 ∧ c.length ≤ 1000 ∧ (c == Str.ofString ".") = false ∧ (c != Str.ofString "..") = true ∧ st (i + 1) = st i ++ [c]) ∨
    (c = Str.ofString ".." ∧ ∃ cs d, st i = cs ++ [d] ∧ (d == Str.ofString "..") = false ∧ st (i + 1) = cs)) :
  Spec p loose w mean mg mb 166 12 100 [.str x t] [] (RStr (Str.ofString "/" ++ Txt.join (Str.ofString "/") (st (Txt.split (Txt.slice x (some 1) none) (Str.ofString "/")).length))) := by
  unfold Spec; k_fill
  intro dp un gd cn cs a ccd cl outer A₀ base h₀ L m news s Q E B F X N T hk hneed hd hu hret
  refine wpAny_call ?_
  (refine' code_def ?k1 ?k2 ?k3 ?k4 ?k5 ?kA ?kF ?kK ?k6 ?k7 ?k8 ?k9 ?kB ?_ ?c2 ?c3 ?c4 ?c5; (case kA | kF => exact rfl); (case kK => assumption); (case k1 | k2 | k3 | k4 | k5 => k_asm); (case k6 | k7 => k_is); (case k8 => ktr_room); (case k9 => first | exact BindsTo.of_eq rfl | exact binds_K (by k_in) rfl (by k_is) rfl rfl rfl); (case c5 => decide); (case kB => exact locs rfl); (case c2 | c3 | c4 => exact rfl); k_whole; intro _ _ _ _ _ _ _ _ _; (try dsimp only); (try k_fold))
  (k_steps; repeat (any_goals (refine Halt.go ?_; (first | ((with_reducible show wpAny _ _ (call (Value.ref 131) [Value.str _ _]) _ _ _); k_dflt (refine' spec_use (sep_spec _ _) (by k_asm) (by k_asm) (by k_asm) (by k_asm) (by k_asm) (by first | exact rfl | assumption) (by exact fun _ h => nomatch h) (by ktr_room) (by ktr_units) ?_); intro _ _ _ _ zN; (dsimp only [List.nil_append, List.cons_append] at zN); (revert zN; intro _); (try dsimp only); (try k_fold)) | ((with_reducible show wpAny _ _ (call (Value.ref 117) [Value.str _ _]) _ _ _); k_dflt (refine' spec_use (fspath_spec _ _) (by k_asm) (by k_asm) (by k_asm) (by k_asm) (by k_asm) (by first | exact rfl | assumption) (by exact fun _ h => nomatch h) (by ktr_room) (by ktr_units) ?_); intro _ _ _ zN; (dsimp only [List.nil_append, List.cons_append] at zN); (revert zN; intro _); (try dsimp only); (try k_fold)) | ((with_reducible show wpAny _ _ (call (Value.ref 145) [Value.str _ _]) _ _ _); k_dflt (refine' spec_use (root_spec _ _ (by first | assumption | lia) (by assumption) (by assumption)) (by k_asm) (by k_asm) (by k_asm) (by k_asm) (by k_asm) (by first | exact rfl | assumption) (by exact fun _ h => nomatch h) (by ktr_room) (by ktr_units) ?_); intro _ _ _ _ _ _ _ zN; (dsimp only [List.nil_append, List.cons_append] at zN); (revert zN; intro _); (try dsimp only); (try k_fold))); k_steps)))
  · rename (StrsAre (strValues _) _) => hSA
    rename (List.map _ _ = Txt.split _ _) => hsp
    rename (_ < _ ∧ _ < _ ∧ AllLt _ _) => hlt
    rename News _ _ _ _ => N9
    rw [hsp] at hSA
    have hSl := hSA.len_eq
    refine For_invVF (by k_asm) rfl rfl ?_
    k_dflt (refine ld (by k_asm) (by rfl) ?_)
    refine list_cell (x := Str.ofString "comp") (fun i o => ∃ us n, o = listOf us.toArray n ∧ StrsAre us (st i)) rfl (by k_mem) (by k_asm) N9 ⟨[], 0, rfl, by rw [hst0]; exact .nil⟩ ?turn ?done
    case turn =>
      intro i v o h9 tk9 own9 hv hown hO F9 N9
      obtain ⟨us, n, rfl, hus⟩ := hO
      obtain ⟨c, tc, rfl, hc⟩ := hSA.item i v hv
      have hul := hus.len_eq
      have hui := hlen i
      have hoff := off_tail hown (fun p hp => by
        rcases List.mem_cons.mp hp with rfl | hp
        · exact Nat.ne_of_lt hlt.1
        · rcases List.mem_cons.mp hp with rfl | hp
          · exact Nat.ne_of_lt hlt.2.1
          · exact Nat.ne_of_lt (kst_ltOf hlt.2.2 p hp))
      rcases hst i c hc with ⟨rfl, e1⟩ | ⟨e1, e0, e2, e3, e4⟩ | ⟨rfl, cs, d, e1, e2, e3⟩
      · k_steps
        all_goals exact cellG (by k_mem) (by assumption) (by k_asm) (by k_asm) ⟨us, n, rfl, by rw [e1]; exact hus⟩ (fun z h1 => by simp only [if_neg h1])
      · k_steps
        all_goals first
          | exact absurd (by assumption) e1
          | exact cellG (by k_mem) (by assumption) (by k_asm) (by k_asm) ⟨us ++ [.str c tc], n + 1, by rw [List.push_toArray], by rw [e4]; exact StrsAre.append' hus (strs_one c tc)⟩ (fun z h1 => by simp only [if_neg h1])
      · rw [e1] at hus hul hui
        obtain ⟨us', td, rfl, hus'⟩ := strs_snoc hus
        simp only [List.length_append, List.length_cons, List.length_nil] at hul hui
        have hpr : ((cs ++ [d]).getD (-1 + ((cs ++ [d]).length : Int)).toNat Str.empty == Str.ofString "..") = false := by
          have e9 : (-1 + ((cs ++ [d]).length : Int)).toNat = cs.length := by
            simp only [List.length_append, List.length_cons, List.length_nil]
            lia
          rw [e9]
          simpa using e2
        (k_steps; repeat (any_goals (refine Halt.go ?_; (first | (k_dflt (refine' truthy_led (b := true) (by k_asm) (by k_mem) (by (simp only [List.size_toArray, List.length_append, List.length_cons, List.length_nil]; lia)) (by (simp; done)) ?_)) | (k_dflt (refine' kl_pop ?zzliF ?zzliN ?zzlie ?zzliU ?zzliz ?_; (case zzliF => k_asm); (case zzliN => k_asm); (case zzliU => k_upd); (case zzlie => exact kpa_last _ _); (case zzliz => (simp only [List.length_append, List.length_cons, List.length_nil]; rw [sizeLine_eq]; lia))); intro _ _ _)); k_steps)))
        all_goals exact cellG (by k_mem) (by assumption) (by k_asm) (by k_asm) ⟨us', n + 1, rfl, by rw [e3]; exact hus'⟩ (fun z h1 => by simp only [if_neg h1])
    case done =>
      intro u o h9 tk9 hO F9 N9
      obtain ⟨us, n, rfl, hus⟩ := hO
      rw [hSl] at hus
      have hjo := joinOk_of (x := Str.ofString "/") (by decide +kernel) (hlen (Txt.split (Txt.slice x (some 1) none) (Str.ofString "/")).length) (hlen2 _)
      (k_steps; repeat (any_goals (refine Halt.go ?_; (with_reducible show wpAny _ _ (call (Value.builtin "str.join") [Value.str _ _, Value.ref _]) _ _ _); k_dflt (refine' join_led (by k_asm) (by k_mem) (by assumption) (by assumption) ?_); intro _ _; k_steps)))
      all_goals first | exact ret_str hret rfl (by k_asm) (by exact cb_drop (by k_asm) (by kcj_all))
  · exact absurd (by assumption) hx0
end Mine
end
section
open Mine.h30 Mine.h1
open PySem PySem.Spec PySem.Calls PySem.W PyProof.Rows
namespace Mine
variable {p : Program} {loose : List Str} {w : World} {mean : ExcName → Option Value} {mg mb : Str → Option Value}

set_option maxHeartbeats 4000000
noncomputable def pathAt (ns : List Str) (i : Nat) : Str := (ns.take i).foldl (fun y nm => joinAt y [Str.ofString ".", Str.ofString "x", Str.ofString "..", nm] 4) (Str.ofString "/")
theorem pathAt_succ {ns : List Str} {i : Nat} {nm : Str} (h : ns[i]? = some nm) : pathAt ns (i + 1) = joinAt (pathAt ns i) [Str.ofString ".", Str.ofString "x", Str.ofString "..", nm] 4 := by
  unfold pathAt
  rw [List.take_add_one, h]
  simp
theorem pathAt_len (ns : List Str) (hb : ∀ b ∈ ns, b.length ≤ 1000) : ∀ i, 1 ≤ (pathAt ns i).length ∧ (pathAt ns i).length ≤ 1 + i * 4004
  | 0 => by
    have h1 : (Str.ofString "/").length = 1 := by decide +kernel
    simp [pathAt, h1]
  | i + 1 => by
    have ih := pathAt_len ns hb i
    cases h : ns[i]? with
    | none =>
      have : pathAt ns (i + 1) = pathAt ns i := by
        unfold pathAt
        rw [List.take_add_one, h]
        simp
      rw [this]
      lia
    | some b =>
      rw [pathAt_succ h]
      have h3 := hb b (List.mem_of_getElem? h)
      have h4 := joinAt_len (pathAt ns i) [Str.ofString ".", Str.ofString "x", Str.ofString "..", b] (by
        intro y hy
        simp only [List.mem_cons, List.not_mem_nil, or_false] at hy
        rcases hy with rfl | rfl | rfl | rfl
        · decide +kernel
        · decide +kernel
        · decide +kernel
        · exact h3) 4
      lia
structure Norms (x : Str) (st : Nat → List Str) : Prop where
  h1 : (Txt.slice x none (some 1) != Str.ofString "/") = false
  h2 : (Txt.slice x (some 1) (some 2) != Str.ofString "/") = true
  st0 : st 0 = []
  len : ∀ i, (st i).length ≤ 1000
  len2 : ∀ i, ∀ y ∈ st i, y.length ≤ 1000
  jl : (Txt.join (Str.ofString "/") (st (Txt.split (Txt.slice x (some 1) none) (Str.ofString "/")).length)).length ≤ 1000000
  step : ∀ i c, (Txt.split (Txt.slice x (some 1) none) (Str.ofString "/"))[i]? = some c → (c = Str.ofString "." ∧ st (i + 1) = st i) ∨ ((c.length : Int) ≠ 0 ∧ c.length ≤ 1000 ∧ (c == Str.ofString ".") = false ∧ (c != Str.ofString "..") = true ∧ st (i + 1) = st i ++ [c]) ∨
    (c = Str.ofString ".." ∧ ∃ cs d, st i = cs ++ [d] ∧ (d == Str.ofString "..") = false ∧ st (i + 1) = cs)
theorem path_spec (l : Addr) (vs : List Value) (n : Nat) (ns : List Str) (hS : StrsAre vs ns) (hn4 : ns.length ≤ 4) (hnl : ∀ b ∈ ns, b.length ≤ 1000) (hns : ∀ b ∈ ns, Txt.startswith b (Str.ofString "/") = false) (st : Nat → List Str) (hN : Norms (pathAt ns ns.length) st) (y : Str)
  (hy : Str.ofString "/" ++ Txt.join (Str.ofString "/") (st (Txt.split (Txt.slice (pathAt ns ns.length) (some 1) none) (Str.ofString "/")).length) = y) :
  Spec p loose w mean mg mb 183 20 200 [.ref l] [(l, listOf vs.toArray n)] (RStr y) := by
  unfold Spec; k_fill
  intro dp un gd cn cs a ccd cl outer A₀ base h₀ L m news s Q E B F X N T hk hneed hd hu hret
  have hm1 := hneed _ (.head _)
  refine wpAny_call ?_
  (refine' code_def ?k1 ?k2 ?k3 ?k4 ?k5 ?kA ?kF ?kK ?k6 ?k7 ?k8 ?k9 ?kB ?_ ?c2 ?c3 ?c4 ?c5; (case kA | kF => exact rfl); (case kK => assumption); (case k1 | k2 | k3 | k4 | k5 => k_asm); (case k6 | k7 => k_is); (case k8 => ktr_room); (case k9 => first | exact BindsTo.of_eq rfl | exact binds_K (by k_in) rfl (by k_is) rfl rfl rfl); (case c5 => decide); (case kB => exact locs rfl); (case c2 | c3 | c4 => exact rfl); k_whole; intro _ _ _ _ _ _ _ _ _; (try dsimp only); (try k_fold))
  k_steps
  refine Halt.go ?_
  refine For_invVF (by k_asm) rfl rfl ?_
  k_dflt (refine ld (by k_asm) (by rfl) ?_)
  have hSl := hS.len_eq
  refine list_acc (x := Str.ofString "name") (y := Str.ofString "path") (fun i t => .str (pathAt ns i) t) rfl hm1 (by k_asm) (by k_asm) (by decide) rfl ?turn ?done
  case turn =>
    intro i v t9 h9 tk9 own9 hv hown F9 N9
    obtain ⟨c, tc, rfl, hc⟩ := hS.item i v hv
    have hc1 := hnl c (List.mem_of_getElem? hc)
    have hc2 := hns c (List.mem_of_getElem? hc)
    have hi : i < ns.length := by
      rcases Nat.lt_or_ge i ns.length with h | h
      · exact h
      · rw [List.getElem?_eq_none h] at hc
        cases hc
    have hpl := pathAt_len ns hnl i
    have hp1 : (pathAt ns i).length ≤ 100000 := by (exact Ar.go [_, _, _] [(.V 1, .N 4, 4004), (.P (.V 2) (.N 1), .V 1, 4004), (.V 0, .P (.N 1) (.R 4004 (.V 2)), 1)] 1 (.V 0) (.N 100000) rfl hn4 hi hpl.2)
    have hp2 : 0 < (pathAt ns i).length := by (exact Ar.go [_] [(.N 1, .V 0, 1)] 1 (.P (.N 0) (.N 1)) (.V 0) rfl hpl.1)
    have hsu := pathAt_succ hc
    dsimp only at F9
    generalize pathAt ns i = z at F9 hp1 hp2 hsu
    (k_steps; repeat (any_goals (refine Halt.go ?_; (with_reducible show wpAny _ _ (call (Value.ref 138) [Value.str _ _, Value.str _ _, Value.str _ _, Value.str _ _, Value.str _ _]) _ _ _); k_dflt (refine' spec_use (join_spec _ _ _ _ _ _ _ (by first | assumption | lia) (by first | assumption | lia) (by first | assumption | lia) (by assumption)) (by k_asm) (by k_asm) (by k_asm) (by k_asm) (by k_asm) (by first | exact rfl | assumption) (by exact fun _ h => nomatch h) (by ktr_room) (by ktr_units) ?_); intro _ _ _ _ zN; (dsimp only [List.nil_append, List.cons_append] at zN); (revert zN; intro _); (try dsimp only); (try k_fold); k_steps)))
    all_goals (refine oneG hm1 hown (by k_asm) (by k_asm) ?_ (fun z h1 h2 => by simp only [if_neg h1, if_neg h2]); rw [hsu]; exact ⟨_, if_pos rfl⟩)
  case done =>
    intro u t9 h9 tk9 F9 N9
    rw [hSl] at F9
    have hpl := pathAt_len ns hnl ns.length
    have hp1 : (pathAt ns ns.length).length ≤ 100000 := by (exact Ar.go [_, _] [(.V 1, .N 4, 4004), (.V 0, .P (.N 1) (.R 4004 (.V 1)), 1)] 1 (.V 0) (.N 100000) rfl hn4 hpl.2)
    have hp2 : ((pathAt ns ns.length).length : Int) ≠ 0 := by lia
    obtain ⟨a1, a2, a3, a4, a5, a6, a7⟩ := hN
    generalize pathAt ns ns.length = z at *
    (k_steps; repeat (any_goals (refine Halt.go ?_; (with_reducible show wpAny _ _ (call (Value.ref 166) [Value.str _ _]) _ _ _); k_dflt (refine' spec_use (norm_spec _ _ _ (by assumption) (by assumption) (by assumption) (by assumption) (by assumption) (by assumption) (by assumption) (by assumption) (by assumption)) (by k_asm) (by k_asm) (by k_asm) (by k_asm) (by k_asm) (by first | exact rfl | assumption) (by exact fun _ h => nomatch h) (by ktr_room) (by ktr_units) ?_); intro _ _ _ _ zN; (dsimp only [List.nil_append, List.cons_append] at zN); (revert zN; intro _); (try dsimp only); (try k_fold); k_steps)))
    all_goals exact ret_str hret hy (by k_asm) (by k_asm)
end Mine
end
section
open PySem PySem.Calls PySem.W PyProof.Rows
set_option genInjectivity false
set_option genSizeOf false
namespace Mine
noncomputable abbrev NoE : Value → Shared → Prop := fun _ _ => False
section
variable {prog : Program} {w : World} {A : Around} {s : Shared} {env : Env}
theorem codeG_forLoop {R : Result → Shared → Prop} {target : Expr} {it : Value} {body : List Stmt} (J : Nat → Shared → Prop)
    (turn : ∀ n s, J n s → wpAny (model prog w) A (pyNext it) (fun r s₁ => match r with
      | none => R (.ok .next) s₁
      | some v => wpAny (model prog w) A (assign target env v) (fun _ s₂ => wpG (model prog w) A (execs body env) (fun f s₃ => match f with
          | .next | .cont => ∃ m, m < n ∧ J m s₃
          | .brk => R (.ok .next) s₃
          | .ret v => R (.ok (.ret v)) s₃) NoE s₂) NoE s₁) NoE s)
    (n : Nat) (h : J n s) (ht : ∀ v, letOwnedTupleGo target it v = pure () := by intro _; rfl) : codeG (model prog w) A (.forLoop target it body [] env) R s := by
  induction n using Nat.strongRecOn generalizing s with
  | ind n ih =>
    refine codeG_of_tree ?_
    show wpG _ _ ((forTurn target it body [] env).onRaise (fun x => do noteFrame x env; theTreesLotGoes x)) _ _ s
    refine wpG_onRaise (wpG_mono (E := NoE) ?_ (fun _ _ x => x) fun _ _ x => x.elim)
    delta forTurn
    try dsimp only
    refine wpG_then (wpAny_standAt (wpG_then (wpAny_onRaise (wpAny_mono (turn n s h) (fun r s₁ h₁ => ?_) fun _ _ x => x.elim))))
    cases r with
    | none => exact wpG_pure ⟨rfl, rfl, codeG_any (codeAny_block (wpAny_execs_nil h₁))⟩
    | some v =>
      refine wpG_then (wpAny_of_eq (ht v) (wpG_then (wpAny_mono h₁ (fun _ s₂ h₂ => wpG_bind (wpG_mono h₂ (fun f s₃ h₃ => ?_) fun _ _ x => x)) fun _ _ x => x)))
      cases f with
      | next => obtain ⟨m, hm, hJ⟩ := h₃; exact wpG_pure ⟨rfl, rfl, ih m hm hJ⟩
      | cont => obtain ⟨m, hm, hJ⟩ := h₃; exact wpG_pure ⟨rfl, rfl, ih m hm hJ⟩
      | brk => exact wpG_pure h₃
      | ret v => exact wpG_pure h₃
theorem wpG_For {target iter : Expr} {body : List Stmt} {pos : Pos} {Q : Flow → Shared → Prop} {E : Value → Shared → Prop}
    (h : wpAny (model prog w) A (eval iter env) (fun x s₁ => wpAny (model prog w) A (pyIter x) (fun it s₂ =>
      codeG (model prog w) A (.forLoop target it body [] env) (fun r s' => match r with | .ok f => Q f s' | .error _ => False) s₂) E s₁) E s)
    (hs : ∀ x, foldedSetIterable iter env x = pure x := by intro _; rfl) : wpG (model prog w) A (exec (.For target iter body [] pos) env) Q E s := by
  rw [exec_For]
  refine wpG_then (wpAny_standAt (wpG_then (wpAny_mono h (fun x s₁ h₁ => wpG_then (wpAny_of_eq (hs x) (wpG_then (wpAny_standAt (wpG_then (wpAny_holding (wpAny_mono h₁ (fun it s₂ h₂ => ?_) fun _ _ x => x))))))) fun _ _ x => x)))
  unfold runOwn
  refine wpG_onRaise (wpG_run (h := none) rfl ?_)
  refine codeG_mono h₂ fun r s' hr => ?_
  cases r with
  | ok f => exact hr
  | error e => exact hr.elim
noncomputable def IterO (l : Addr) (i : Nat) (o : Obj) : Prop := o.cls = .type "list_iterator" ∧ o.data = .fields #[.ref l, .int i 0]
inductive ForInv (s : Shared) (vs : List Value) (l I : Addr) (h₀ : Heap) (L : Addr) (news : List (Addr × Obj)) (J : Nat → (Str → Option Value) → Prop) : Nat → Shared → Prop
  | mk (i : Nat) (h : Heap) (tk : Nat) (m : Str → Option Value) (o : Obj) (hi : i ≤ vs.length) (ho : IterO l i o) (F : Fr h₀ L h m) (N : News h₀ L h ((I, o) :: news)) (hJ : J i m) : ForInv s vs l I h₀ L news J (vs.length - i) { s with heap := h, toks := tk }
theorem codeG_for_list {R : Result → Shared → Prop} {x : Str} {px : Pos} {body : List Stmt} {h₀ : Heap} {I l : Addr} {vs : List Value} {nn i₀ : Nat} {o₀ : Obj} {m₀ : Str → Option Value} {news : List (Addr × Obj)} (J : Nat → (Str → Option Value) → Prop)
    (hh : A.handled = none) (hx : env.kindOf x = some .local) (hp : (env.scope.kind == .class || (env.scope.kind == .module && env.locals != env.globals)) = false)
    (hl : (l, listOf vs.toArray nn) ∈ news) (hI : ∀ p ∈ news, p.1 ≠ I) (ho : IterO l i₀ o₀) (hi : i₀ ≤ vs.length) (F : Fr h₀ env.locals s.heap m₀) (N : News h₀ env.locals s.heap ((I, o₀) :: news)) (hJ : J i₀ m₀)
    (turn : ∀ i v m o h tk, vs[i]? = some v → J i m → Fr h₀ env.locals h (fun z => if z = x then some v else m z) → News h₀ env.locals h ((I, o) :: news) →
      wpG (model prog w) A (execs body env) (fun f s' => match f with
        | .next | .cont => ∃ h' tk' m', s' = { s with heap := h', toks := tk' } ∧ Fr h₀ env.locals h' m' ∧ News h₀ env.locals h' ((I, o) :: news) ∧ J (i + 1) m'
        | .brk => R (.ok .next) s'
        | .ret v => R (.ok (.ret v)) s') NoE { s with heap := h, toks := tk })
    (done : ∀ m h tk, J vs.length m → Fr h₀ env.locals h m → News h₀ env.locals h news → R (.ok .next) { s with heap := h, toks := tk }) :
    codeG (model prog w) A (.forLoop (.Name x px) (.ref I) body [] env) R s := by
  refine codeG_forLoop (ForInv s vs l I h₀ env.locals news J) ?_ (vs.length - i₀)
    (.mk i₀ s.heap s.toks m₀ o₀ hi ho F N hJ)
  rintro k s' ⟨i, h, tk, m, o, hi, ho, F, N, hJ⟩
  have hI1 := N _ (.head _)
  have hL := led_list (fun p hp => N p (.tail _ hp)) hl
  have hlI : l ≠ I := hI _ hl
  by_cases hlt : i < vs.length
  · have hv : vs[i]? = some vs[i] := List.getElem?_eq_getElem hlt
    refine wpAny_pyNext_list_item (s := { s with heap := h, toks := tk }) ⟨o, hI1.1, ho⟩ hL (x := vs[i]) (by simp [hlt]) fun h' hit' hs' => ?_
    dsimp only
    obtain ⟨o', ho', hO'⟩ := hit'
    have F' : Fr h₀ env.locals h' m := F.change hs' hI1.2.1 hI1.2.2
    have N' : News h₀ env.locals h' ((I, o') :: news) := fun p hp => by
      rcases List.mem_cons.mp hp with rfl | hp
      · exact ⟨ho', hI1.2⟩
      · have := N p (.tail _ hp)
        exact ⟨(hs'.2 _ (hI p hp)).trans this.1, this.2⟩
    refine wpAny_assign_Name (wpAny_storeName_local (s := { s with heap := h', toks := tk }) hx F'.ns (fun h₂ hn₂ hs₂ => ?_) hp)
    refine wpG_mono (turn i _ m o' h₂ (tk + 1) hv hJ (F'.set hn₂ hs₂) (N'.set hs₂)) (fun f s₃ h₃ => ?_) fun _ _ x => x
    cases f with
    | ret v => exact h₃
    | brk => exact h₃
    | next =>
      obtain ⟨h4, tk4, m4, rfl, F4, N4, J4⟩ := h₃
      exact ⟨_, by omega, .mk (i + 1) h4 tk4 m4 o' hlt hO' F4 N4 J4⟩
    | cont =>
      obtain ⟨h4, tk4, m4, rfl, F4, N4, J4⟩ := h₃
      exact ⟨_, by omega, .mk (i + 1) h4 tk4 m4 o' hlt hO' F4 N4 J4⟩
  · have hin : i = vs.length := by omega
    subst hin
    refine wpAny_pyNext_list_end (s := { s with heap := h, toks := tk }) hh ⟨o, hI1.1, ho⟩ hL (by simp) fun h' he' => ?_
    dsimp only
    obtain ⟨oL, es, ep, hLL, r⟩ := F.ns
    refine done m h' tk hJ ⟨⟨oL, es, ep, he' _ _ (Ne.symm hI1.2.1) hLL, r⟩, fun b o e => he' b o (fun q => by rw [q, hI1.2.2] at e; cases e) (F.keep b o e), F.above⟩ fun p hp => ?_
    have := N p (.tail _ hp)
    exact ⟨he' _ _ (hI p hp) this.1, this.2⟩
theorem iter_led {h₀ : Heap} {L l : Addr} {vs : List Value} {nn : Nat} {m : Str → Option Value} {news : List (Addr × Obj)} {Q : Value → Shared → Prop} {E : Value → Shared → Prop} (F : Fr h₀ L s.heap m) (N : News h₀ L s.heap news) (hl : (l, listOf vs.toArray nn) ∈ news)
    (h : ∀ I h' o, (∀ p ∈ news, p.1 < I) → IterO l 0 o → Fr h₀ L h' m → News h₀ L h' ((I, o) :: news) → Q (.ref I) { s with heap := h' }) : wpAny (model prog w) A (pyIter (.ref l)) Q E s := by
  refine wpAny_pyIter_list (led_list N hl) ?_
  exact h _ _ _ (fun p hp => Heap.lt_size (N p hp).1) ⟨rfl, rfl⟩ (F.push _) (News.push F N _ rfl)
theorem call_iter_led {h₀ : Heap} {L l : Addr} {vs : List Value} {nn : Nat} {m : Str → Option Value} {news : List (Addr × Obj)} {Q : Value → Shared → Prop} {E : Value → Shared → Prop} (F : Fr h₀ L s.heap m) (N : News h₀ L s.heap news) (hl : (l, listOf vs.toArray nn) ∈ news)
    (h : ∀ I h' o, (∀ p ∈ news, p.1 < I) → IterO l 0 o → Fr h₀ L h' m → News h₀ L h' ((I, o) :: news) → Q (.ref I) { s with heap := h' }) : wpAny (model prog w) A (call (.builtin "iter") [.ref l]) Q E s := by
  refine call_function_entry (by decide +kernel) (by decide +kernel) kdk_entry_iter (kdk_args_iter _) ?_
  unfold Builtin.«iter»
  refine wpAny_bind (m := someArgs "iter" 1 2 _) (wpAny_of_eq (a := [Value.ref l]) (by first | rfl | kernel_rfl!) ?_)
  show wpAny _ _ (pyIter (.ref l) >>= _) _ _ _
  exact wpAny_bind (iter_led F N hl fun I h' o hlt ho F' N' => wpAny_pure ⟨_, rfl, h I h' o hlt ho F' N'⟩)
theorem call_next_led {h₀ : Heap} {L I l : Addr} {i : Nat} {v : Value} {o : Obj} {vs : List Value} {nn : Nat} {m : Str → Option Value} {news : List (Addr × Obj)} {Q : Value → Shared → Prop} {E : Value → Shared → Prop} (F : Fr h₀ L s.heap m) (N : News h₀ L s.heap ((I, o) :: news)) (ho : IterO l i o) (hl : (l, listOf vs.toArray nn) ∈ news) (hI : ∀ p ∈ news, p.1 ≠ I) (hv : vs[i]? = some v)
    (h : ∀ h' o', IterO l (i + 1) o' → Fr h₀ L h' m → News h₀ L h' ((I, o') :: news) → Q v { s with heap := h' }) : wpAny (model prog w) A (call (.builtin "next") [.ref I]) Q E s := by
  have hI1 := N _ (.head _)
  have hL := led_list (fun p hp => N p (.tail _ hp)) hl
  have hit : s.heap.IsListIter I l i := ⟨o, hI1.1, ho⟩
  refine call_function_entry (by decide +kernel) (by decide +kernel) kdk_entry_next (kdk_args_next _) ?_
  unfold Builtin.«next»
  refine wpAny_bind (m := someArgs "next" 1 2 _) (wpAny_of_eq (a := [Value.ref I]) (by first | rfl | kernel_rfl!) ?_)
  dsimp only
  refine wpAny_bind (wpAny_specialOf (name := Str.ofString "__next__") hit.typeIs slot_listiter_next.lookup ?_)
  refine wpAny_ite_split (fun hab => absurd hab (by decide)) (fun _ => ?_)
  obtain ⟨ol, hol, _, nl, hdl⟩ := hL
  refine wpAny_bind (wpAny_callSpecial?_slot (name := Str.ofString "__next__") hit.typeIs slot_listiter_next
    (wpAny_call_entry slot_listiter_next hit.typeIs entry_listiter_next ?_ (args_listiter_next _)))
  show wpAny _ _ (field (.ref I) 0 >>= _) _ _ s
  refine wpAny_bind (wpAny_field hI1.1 ho.2 (x := .ref l) rfl ?_)
  show wpAny _ _ (if (Value.ref l == Value.none) = true then _ else _) _ _ s
  rw [if_neg (show ¬ ((Value.ref l == Value.none) = true) from Bool.false_ne_true)]
  show wpAny _ _ (field (.ref I) 1 >>= _) _ _ s
  refine wpAny_bind (wpAny_field hI1.1 ho.2 (x := .int i 0) rfl ?_)
  show wpAny _ _ (seqItems? (.ref l) >>= _) _ _ s
  refine wpAny_bind (wpAny_seqItems hol hdl ?_)
  have hv' : vs.toArray[i]? = some v := by simpa using hv
  simp only [Int.toNat_natCast, hv']
  have hs' := Heap.SameBut.update s.heap I (Obj.mapFields (·.setIfInBounds 1 (rawInt ((i : Int) + 1))))
  have hI' : (s.heap.update I (Obj.mapFields (·.setIfInBounds 1 (rawInt ((i : Int) + 1))))).get? I = some (Obj.mapFields (·.setIfInBounds 1 (rawInt ((i : Int) + 1))) o) := Heap.get?_update_self _ hI1.1 (Obj.isFreed_of_fields (Obj.data_mapFields ho.2 _))
  have hO' : IterO l (i + 1) (Obj.mapFields (·.setIfInBounds 1 (rawInt ((i : Int) + 1))) o) := ⟨(Obj.cls_mapFields ..).trans ho.1, by rw [Obj.data_mapFields ho.2]; simp [rawInt]⟩
  have N' : News h₀ L (s.heap.update I (Obj.mapFields (·.setIfInBounds 1 (rawInt ((i : Int) + 1))))) ((I, Obj.mapFields (·.setIfInBounds 1 (rawInt ((i : Int) + 1))) o) :: news) := fun p hp => by
    rcases List.mem_cons.mp hp with rfl | hp
    · exact ⟨hI', hI1.2⟩
    · have := N p (.tail _ hp)
      exact ⟨(hs'.2 _ (hI p hp)).trans this.1, this.2⟩
  refine wpAny_bind (wpAny_setField hI1.1 ho.2 (by simp) (wpAny_pure ⟨v, rfl, wpAny_pure ⟨_, rfl, h _ _ hO' (F.change hs' hI1.2.1 hI1.2.2) N'⟩⟩))
end
end Mine
end
section
open PySem PySem.Calls PySem.W PyProof.Rows
namespace Mine
section
variable {prog : Program} {w : World} {A : Around} {s : Shared} {env : Env}
noncomputable def TurnEnd (h₀ : Heap) (L : Addr) (led : List (Addr × Obj)) (x y : Str) (m₀ : Str → Option Value) (V : Tok → Value) (R : Result → Shared → Prop) (s : Shared) (f : Flow) (s' : Shared) : Prop := match f with
  | .next | .cont => ∃ h' tk' m', s' = { s with heap := h', toks := tk' } ∧ Fr h₀ L h' m' ∧ News h₀ L h' led ∧ (∃ t, m' y = some (V t)) ∧ ∀ z, z ≠ x → z ≠ y → m' z = m₀ z
  | .brk => R (.ok .next) s'
  | .ret v => R (.ok (.ret v)) s'
theorem codeG_list_acc {R : Result → Shared → Prop} {x y : Str} {px : Pos} {body : List Stmt} {h₀ : Heap} {I l : Addr} {vs : List Value} {nn i₀ : Nat} {o₀ : Obj} {m₀ : Str → Option Value} {news : List (Addr × Obj)} {t₀ : Tok} (V : Nat → Tok → Value)
    (hh : A.handled = none) (hx : env.kindOf x = some .local) (hp : (env.scope.kind == .class || (env.scope.kind == .module && env.locals != env.globals)) = false)
    (hl : (l, listOf vs.toArray nn) ∈ news) (hI : ∀ p ∈ news, p.1 ≠ I) (ho : IterO l i₀ o₀) (hi : i₀ ≤ vs.length) (F : Fr h₀ env.locals s.heap m₀) (N : News h₀ env.locals s.heap ((I, o₀) :: news)) (hyx : y ≠ x) (hy : m₀ y = some (V i₀ t₀))
    (turn : ∀ i v t o h tk, i₀ ≤ i → vs[i]? = some v → Fr h₀ env.locals h (fun z => if z = x then some v else if z = y then some (V i t) else m₀ z) → News h₀ env.locals h ((I, o) :: news) →
      wpG (model prog w) A (execs body env) (TurnEnd h₀ env.locals ((I, o) :: news) x y m₀ (V (i + 1)) R { s with heap := h, toks := tk }) NoE { s with heap := h, toks := tk })
    (done : ∀ (u : Option Value) t h tk, Fr h₀ env.locals h (fun z => if z = x then u else if z = y then some (V vs.length t) else m₀ z) → News h₀ env.locals h news → R (.ok .next) { s with heap := h, toks := tk }) :
    codeG (model prog w) A (.forLoop (.Name x px) (.ref I) body [] env) R s := by
  refine codeG_for_list (fun i m => i₀ ≤ i ∧ (∃ t, m y = some (V i t)) ∧ ∀ z, z ≠ x → z ≠ y → m z = m₀ z) hh hx hp hl hI ho hi F N ⟨Nat.le_refl _, ⟨t₀, hy⟩, fun _ _ _ => rfl⟩ ?_ ?_
  · rintro i v m o h tk hv ⟨hi', ⟨t, ha⟩, hm⟩ F₁ N₁
    rw [map_one ha hm] at F₁
    refine wpG_mono (turn i v t o h tk hi' hv F₁ N₁) (fun f s' hf => ?_) fun _ _ x => x
    cases f with
    | next => obtain ⟨h', tk', m', e, F', N', hv', hm'⟩ := hf; exact ⟨h', tk', m', e, F', N', Nat.le_succ_of_le hi', hv', hm'⟩
    | cont => obtain ⟨h', tk', m', e, F', N', hv', hm'⟩ := hf; exact ⟨h', tk', m', e, F', N', Nat.le_succ_of_le hi', hv', hm'⟩
    | brk => exact hf
    | ret v => exact hf
  · rintro m h tk ⟨_, ⟨t, ha⟩, hm⟩ F₁ N₁
    rw [done_form ha hm hyx] at F₁
    exact done (m x) t h tk F₁ N₁
theorem turnEnd {R : Result → Shared → Prop} {h₀ h' : Heap} {L : Addr} {led : List (Addr × Obj)} {x y : Str} {m₀ m' : Str → Option Value} {V : Tok → Value} {tk' : Nat} (F : Fr h₀ L h' m') (N : News h₀ L h' led) (hv : ∃ t, m' y = some (V t)) (hm : ∀ z, z ≠ x → z ≠ y → m' z = m₀ z) :
    TurnEnd h₀ L led x y m₀ V R s .next { s with heap := h', toks := tk' } := ⟨h', tk', m', rfl, F, N, hv, hm⟩
noncomputable def TurnFree (h₀ : Heap) (L : Addr) (led : List (Addr × Obj)) (x y : Str) (m₀ : Str → Option Value) (R : Result → Shared → Prop) (s : Shared) (f : Flow) (s' : Shared) : Prop := match f with
  | .next | .cont => ∃ h' tk' m', s' = { s with heap := h', toks := tk' } ∧ Fr h₀ L h' m' ∧ News h₀ L h' led ∧ ∀ z, z ≠ x → z ≠ y → m' z = m₀ z
  | .brk => R (.ok .next) s'
  | .ret v => R (.ok (.ret v)) s'
theorem form3 {x y : Str} {v : Value} {m₁ m₀ : Str → Option Value} (hm : ∀ z, z ≠ x → z ≠ y → m₁ z = m₀ z) : (fun z => if z = x then some v else m₁ z) = fun z => if z = x then some v else if z = y then m₁ y else m₀ z := by
  funext z
  by_cases h1 : z = x
  · simp [h1]
  · simp only [if_neg h1]
    by_cases h2 : z = y
    · subst h2; simp
    · rw [if_neg h2]; exact hm z h1 h2
theorem codeG_list_free {R : Result → Shared → Prop} {x y : Str} {px : Pos} {body : List Stmt} {h₀ : Heap} {I l : Addr} {vs : List Value} {nn i₀ : Nat} {o₀ : Obj} {m₀ : Str → Option Value} {news : List (Addr × Obj)}
    (hh : A.handled = none) (hx : env.kindOf x = some .local) (hp : (env.scope.kind == .class || (env.scope.kind == .module && env.locals != env.globals)) = false)
    (hl : (l, listOf vs.toArray nn) ∈ news) (hI : ∀ p ∈ news, p.1 ≠ I) (ho : IterO l i₀ o₀) (hi : i₀ ≤ vs.length) (F : Fr h₀ env.locals s.heap m₀) (N : News h₀ env.locals s.heap ((I, o₀) :: news))
    (turn : ∀ (i : Nat) (v : Value) (u : Option Value) (o : Obj) (h : Heap) (tk : Nat), vs[i]? = some v → Fr h₀ env.locals h (fun z => if z = x then some v else if z = y then u else m₀ z) → News h₀ env.locals h ((I, o) :: news) →
      wpG (model prog w) A (execs body env) (TurnFree h₀ env.locals ((I, o) :: news) x y m₀ R { s with heap := h, toks := tk }) NoE { s with heap := h, toks := tk })
    (done : ∀ (u u' : Option Value) h tk, Fr h₀ env.locals h (fun z => if z = x then u else if z = y then u' else m₀ z) → News h₀ env.locals h news → R (.ok .next) { s with heap := h, toks := tk }) :
    codeG (model prog w) A (.forLoop (.Name x px) (.ref I) body [] env) R s := by
  refine codeG_for_list (fun i m => ∀ z, z ≠ x → z ≠ y → m z = m₀ z) hh hx hp hl hI ho hi F N (fun _ _ _ => rfl) ?_ ?_
  · rintro i v m o h tk hv hm F₁ N₁
    rw [form3 hm] at F₁
    refine wpG_mono (turn i v (m y) o h tk hv F₁ N₁) (fun f s' hf => ?_) fun _ _ x => x
    cases f with
    | next => obtain ⟨h', tk', m', e, F', N', hm'⟩ := hf; exact ⟨h', tk', m', e, F', N', hm'⟩
    | cont => obtain ⟨h', tk', m', e, F', N', hm'⟩ := hf; exact ⟨h', tk', m', e, F', N', hm'⟩
    | brk => exact hf
    | ret v => exact hf
  · rintro m h tk hm F₁ N₁
    rw [form2 hm] at F₁
    exact done (m x) (m y) h tk F₁ N₁
theorem turnFree {R : Result → Shared → Prop} {h₀ h' : Heap} {L : Addr} {led : List (Addr × Obj)} {x y : Str} {m₀ m' : Str → Option Value} {tk' : Nat} (F : Fr h₀ L h' m') (N : News h₀ L h' led) (hm : ∀ z, z ≠ x → z ≠ y → m' z = m₀ z) :
    TurnFree h₀ L led x y m₀ R s .next { s with heap := h', toks := tk' } := ⟨h', tk', m', rfl, F, N, hm⟩
end
end Mine
end
section
open Mine.h36 Mine.h37
open PySem PySem.Calls PySem.W PyProof.Rows
namespace Mine
variable {p : Program} {loose : List Str} {w : World} {mean : ExcName → Option Value} {mg mb : Str → Option Value}

set_option maxHeartbeats 4000000

noncomputable def swaps (b : Array UInt8) (ws : List Nat) (k : Nat) : Array UInt8 := (ws.take k).foldl swapB b
theorem swaps_size (b : Array UInt8) (ws : List Nat) (k : Nat) : (swaps b ws k).size = b.size := by
  unfold swaps
  generalize ws.take k = l
  induction l generalizing b with
  | nil => rfl
  | cons a l ih => rw [List.foldl_cons, ih, swapB_size]
theorem swaps_succ {b : Array UInt8} {ws : List Nat} {k wd : Nat} (h : ws[k]? = some wd) : swaps b ws (k + 1) = swapB (swaps b ws k) wd := by
  unfold swaps
  rw [List.take_add_one, h]
  simp
theorem reduce_spec (l : Addr) (vs : List Value) (ws : List Nat) (n : Nat) (b : Array UInt8) (tb : Tok) (hb : b.size ≤ 1000) (hlen : vs.length = ws.length) (hvs : ∀ (i : Nat) (v : Value), vs[i]? = some v → ∃ (wd : Nat) (t : Tok), v = Value.int wd t ∧ ws[i]? = some wd)
  (hws : ∀ wd ∈ ws, 0 < wd ∧ wd ≤ 1000 ∧ b.size % wd = 0) :
  SpecG p loose w mean mg mb 44 20 200 [.ref 28, .ref l, .bytes b tb] [(l, listOf vs.toArray n)] (RBytes (ws.foldl swapB b)) := by
  unfold SpecG; k_fill
  intro dp un gd cn cs a ccd cl outer A₀ base h₀ L m news s Q E B F X N T hk hneed hd hu hret
  have hm0 := hneed _ (.head _)
  refine wpG_call ?_
  (refine' code_defG ?k1 ?k2 ?k3 ?k4 ?k5 ?kA ?kF ?kK ?k6 ?k7 ?k8 ?k9 ?kB ?_ ?c2 ?c3 ?c4 ?c5; (case kA | kF => exact rfl); (case kK => assumption); (case k1 | k2 | k3 | k4 | k5 => k_asm); (case k6 | k7 => k_is); (case k8 => ktr_room); (case k9 => first | exact BindsTo.of_eq rfl | exact binds_K (by k_in) rfl (by k_is) rfl rfl rfl); (case c5 => decide); (case kB => exact locs rfl); (case c2 | c3 | c4 => exact rfl); k_whole; intro _ _ _ _ _ _ _ _ _; (try dsimp only); (try k_fold))
  refine wpG_execs_then ?_
  k_steps
  refine Halt.go ?_
  (k_dflt (refine call_iter_led (by k_asm) (by k_asm) (by first | assumption | k_mem) ?_); intro _ _ _ _ _ _ _; (try dsimp only))
  k_steps
  refine wpG_execs_then ?_
  k_steps
  refine Halt.go ?_
  ((with_reducible show wpAny _ _ (compareOp CmpOp.Is (Value.bytes _ _) (Value.ref _)) _ _ _); refine wpAny_is_other (by rfl) (by intro x; cases x) ?_)
  k_steps
  refine wpG_execs_cons (wpG_For ?_)
  k_steps
  refine wpAny_pyIter_listiter ⟨_, (by assumption : News _ _ _ (_ :: news)) _ (.head _) |>.1, by assumption⟩ ?_
  rename (∀ p ∈ news, p.1 < _) => l9'
  refine codeG_list_acc (x := Str.ofString "element") (y := Str.ofString "value") (fun i t => .bytes (swaps b ws i) t) rfl rfl rfl hm0 (fun p hp => Nat.ne_of_lt (l9' p hp)) (by assumption) (Nat.zero_le _) (by k_asm) (by k_asm) (by decide) rfl ?turn ?done
  case turn =>
    intro i v t5 o5 h5 tk5 hi5 hv5 F5 N5
    obtain ⟨wd, tw, rfl, hwd⟩ := hvs i v hv5
    have hwi := hws wd (List.mem_of_getElem? hwd)
    refine wpG_execs_one (wpG_Assign_Name (wpG_Call (a := 28) rfl ?_))
    k_steps
    refine DefCall.go (by k_asm) (by k_asm) (by k_is) ?_
    refine' specG_use (swap_spec _ _ wd _ (by rw [swaps_size]; exact hb) hwi.1 hwi.2.1 (by rw [swaps_size]; exact hwi.2.2)) ?k1 ?k2 ?k3 ?k4 ?k5 ?kK ?kn ?kd ?ku ?_; (case kn => exact fun _ h => nomatch h)
    ((case k1 | k2 | k3 | k4 | k5 => k_asm); (case kK => first | exact rfl | assumption); (case kd => ktr_room); (case ku => ktr_units))
    intro t9 h9 tk9 F9 N9
    dsimp only
    k_steps
    refine turnEnd (by k_asm) (by k_asm) ⟨_, by rw [swaps_succ hwd]; exact if_pos rfl⟩ (fun z h1 h2 => by simp only [if_neg h1, if_neg h2])
  case done =>
    intro u5 t5 h5 tk5 F5 N5
    dsimp only
    refine wpG_any ?_
    k_steps
    exact ret_bytes hret (by rw [hlen, swaps, List.take_length]) (by k_asm) (by k_asm)
end Mine
end
section
open Mine.h36
open PySem PySem.Calls PySem.W PyProof.Rows
namespace Mine
variable {p : Program} {loose : List Str} {w : World} {mean : ExcName → Option Value} {mg mb : Str → Option Value}

set_option maxHeartbeats 4000000

theorem reduce2_spec (l : Addr) (vs : List Value) (ws : List Nat) (n : Nat) (b : Array UInt8) (tb : Tok) (hb : b.size ≤ 1000) (hlen : vs.length = ws.length) (hvs : ∀ (i : Nat) (v : Value), vs[i]? = some v → ∃ (wd : Nat) (t : Tok), v = Value.int wd t ∧ ws[i]? = some wd)
  (hws : ∀ wd ∈ ws, 0 < wd ∧ wd ≤ 1000 ∧ b.size % wd = 0) :
  SpecG p loose w mean mg mb 44 20 200 [.ref 28, .ref l] [(l, listOf (Value.bytes b tb :: vs).toArray n)] (RBytes (ws.foldl swapB b)) := by
  unfold SpecG; k_fill
  intro dp un gd cn cs a ccd cl outer A₀ base h₀ L m news s Q E B F X N T hk hneed hd hu hret
  have hm0 := hneed _ (.head _)
  refine wpG_call ?_
  (refine' code_defG ?k1 ?k2 ?k3 ?k4 ?k5 ?kA ?kF ?kK ?k6 ?k7 ?k8 ?k9 ?kB ?_ ?c2 ?c3 ?c4 ?c5; (case kA | kF => exact rfl); (case kK => assumption); (case k1 | k2 | k3 | k4 | k5 => k_asm); (case k6 | k7 => k_is); (case k8 => ktr_room); (case k9 => first | exact BindsTo.of_eq rfl | exact binds_K (by k_in) rfl (by k_is) rfl rfl rfl); (case c5 => decide); (case kB => exact locs rfl); (case c2 | c3 | c4 => exact rfl); k_whole; intro _ _ _ _ _ _ _ _ _; (try dsimp only); (try k_fold))
  refine wpG_execs_then ?_
  (k_steps; repeat (any_goals (refine Halt.go ?_; k_dflt (refine call_iter_led (by k_asm) (by k_asm) (by first | assumption | k_mem) ?_); intro _ _ _ _ _ _ _; (try dsimp only); k_steps)))
  refine wpG_execs_then ?_
  k_steps
  rename (∀ p ∈ news, p.1 < _) => l9'
  refine call_next_led (by k_asm) (by k_asm) (by assumption) hm0 (fun p hp => Nat.ne_of_lt (l9' p hp)) rfl ?_
  intro h8 o8 hO8 F8 N8
  k_steps
  refine wpG_execs_cons (wpG_For ?_)
  k_steps
  refine wpAny_pyIter_listiter ⟨_, (by assumption : News _ _ _ (_ :: news)) _ (.head _) |>.1, hO8⟩ ?_
  refine codeG_list_acc (x := Str.ofString "element") (y := Str.ofString "value") (i₀ := 1) (fun i t => .bytes (swaps b ws (i - 1)) t) rfl rfl rfl hm0 (fun p hp => Nat.ne_of_lt (l9' p hp)) hO8 (by simp) (by k_asm) (by k_asm) (by decide) rfl ?turn ?done
  case turn =>
    intro i v t5 o5 h5 tk5 hi5 hv5 F5 N5
    obtain ⟨i, rfl⟩ : ∃ k, i = k + 1 := ⟨i - 1, by omega⟩
    obtain ⟨wd, tw, rfl, hwd⟩ := hvs i v (by simpa using hv5)
    simp only [Nat.add_sub_cancel] at F5 ⊢
    have hwi := hws wd (List.mem_of_getElem? hwd)
    refine wpG_execs_one (wpG_Assign_Name (wpG_Call (a := 28) rfl ?_))
    k_steps
    refine DefCall.go (by k_asm) (by k_asm) (by k_is) ?_
    refine' specG_use (swap_spec _ _ wd _ (by rw [swaps_size]; exact hb) hwi.1 hwi.2.1 (by rw [swaps_size]; exact hwi.2.2)) ?k1 ?k2 ?k3 ?k4 ?k5 ?kK ?kn ?kd ?ku ?_; (case kn => exact fun _ h => nomatch h)
    ((case k1 | k2 | k3 | k4 | k5 => k_asm); (case kK => first | exact rfl | assumption); (case kd => ktr_room); (case ku => ktr_units))
    intro t9 h9 tk9 F9 N9
    dsimp only
    k_steps
    refine turnEnd (by k_asm) (by k_asm) ⟨_, by rw [swaps_succ hwd]; exact if_pos rfl⟩ (fun z h1 h2 => by simp only [if_neg h1, if_neg h2])
  case done =>
    intro u5 t5 h5 tk5 F5 N5
    dsimp only
    refine wpG_any ?_
    k_steps
    exact ret_bytes hret (by rw [List.length_cons, Nat.add_sub_cancel, hlen, swaps, List.take_length]) (by k_asm) (by k_asm)
end Mine
end
section
open PySem PySem.Calls PySem.W PyProof.Rows
namespace Mine
open PySem.Builtin._codecs
theorem forIn_count {β : Type} (f : Nat → β → Sem (ForInStep β)) (g : Nat → β) (n : Nat) (hs : ∀ x p, p < n → f x (g p) = pure (.yield (g (p + 1)))) : ∀ (l : List Nat) (p : Nat), p + l.length = n → forIn l (g p) f = pure (g n)
  | [], p, h => by rw [List.forIn_nil, ← h]; simp
  | x :: l, p, h => by
    rw [List.length_cons] at h
    rw [List.forIn_cons, hs x p (by (exact Ar.go [_, _, _] [(.P (.V 0) (.P (.V 2) (.N 1)), .V 1, 1)] 1 (.P (.V 0) (.N 1)) (.V 1) rfl (Nat.le_of_eq h))), pure_bind]
    exact forIn_count f g n hs l (p + 1) (by (exact Nat.le_antisymm (Ar.go [_, _, _] [(.P (.V 0) (.P (.V 1) (.N 1)), .V 2, 1)] 1 (.P (.P (.V 0) (.N 1)) (.V 1)) (.V 2) rfl (Nat.le_of_eq h)) (Ar.go [_, _, _] [(.V 0, .P (.V 1) (.P (.V 2) (.N 1)), 1)] 1 (.V 0) (.P (.P (.V 1) (.N 1)) (.V 2)) rfl (Nat.le_of_eq h.symm))))
theorem forIn_once {β : Type} (f : Nat → β → Sem (ForInStep β)) (b0 b1 : β) (h0 : ∀ x, f x b0 = pure (.yield b1)) (h1 : ∀ x, f x b1 = pure (.done b1)) : ∀ (l : List Nat), l ≠ [] → forIn l b0 f = pure b1
  | [], h => absurd rfl h
  | [x], _ => by rw [List.forIn_cons, h0, pure_bind]; simp
  | x :: y :: l, _ => by rw [List.forIn_cons, h0, pure_bind]; simp only; rw [List.forIn_cons, h1, pure_bind]
theorem dec_ascii (id : String) (b : Array UInt8) (h : ∀ c ∈ b.toList, c.toNat < 128) (hz : b.size ≤ 1000) : runDecoder id asciiDecoder none true b 0 [] = pure (b.map (·.toNat), b.size) := by
  unfold runDecoder
  dsimp only
  rw [Std.Legacy.Range.forIn_eq_forIn_range']
  have e : (0, (#[] : Array Nat), ({} : Faults)) = (fun p => (p, (b.map (·.toNat)).extract 0 p, ({} : Faults))) 0 := by simp
  refine (congrArg (· >>= _) ((congrArg (fun z => forIn _ z _) e).trans (forIn_count _ (fun p => (p, (b.map (·.toNat)).extract 0 p, ({} : Faults))) b.size ?_ _ 0 ?_))).trans ?_
  · intro x p hp
    have hg : b.getD p 0 = b[p] := by simp [hp]
    have hc : (b[p]).toNat < 128 := h _ (by simp)
    have hfind : asciiDecoder.find true b p = .char b[p].toNat (p + 1) := by
      show (let c := (b.getD p 0).toNat; if c < 128 then Found.char c (p + 1) else _) = _
      rw [hg]
      simp only [hc, if_true]
    have hsz : ¬ (((b.map (·.toNat)).extract 0 p).size > sizeLine) := by simp [sizeLine]; (exact Ar.go [_, _] [(.V 1, .N 1000, 1), (.V 0, .V 1, 1)] 1 (.V 0) (.N 16777216) rfl hz (Nat.min_le_right _ _))
    rw [if_neg hsz, if_neg (by simpa using hp)]
    dsimp only
    rw [hfind]
    show pure (ForInStep.yield (p + 1, (b.map (·.toNat)).extract 0 p ++ [b[p].toNat].toArray, ({} : Faults))) = _
    have e2 : (b.map (·.toNat)).extract 0 p ++ [b[p].toNat].toArray = (b.map (·.toNat)).extract 0 (p + 1) := by
      apply Array.ext'
      simp [List.take_add_one, hp]
    rw [e2]
  · simp [Std.Legacy.Range.size]
  · rw [pure_bind]
    have e3 : (b.map (·.toNat)).extract 0 b.size = b.map (·.toNat) := by
      apply Array.ext'
      rw [Array.toList_extract, List.extract_eq_drop_take]
      simp [List.take_of_length_le]
    dsimp only
    rw [e3]
theorem enc_ascii (id : String) (self : Value) (s : Str) (h : ∀ c ∈ s.cps.toList, c < 128) (hz : s.length ≤ 1000) : encodeNarrow id asciiCodec none self s = pure (s.cps.map Nat.toUInt8) := by
  have hb : ∀ c ∈ s.cps.toList, asciiCodec.bad c = false := fun c hc => by
    show decide (c ≥ 128) = false
    have := h c hc
    simp; (exact Ar.go [_] [(.P (.V 0) (.N 1), .N 128, 1)] 1 (.P (.V 0) (.N 1)) (.N 128) rfl this)
  have hn : s.cps.findIdx? asciiCodec.bad = none := by
    rw [Array.findIdx?_eq_none_iff]
    intro c hc
    exact hb c (by simpa using hc)
  have hfold : ∀ (l : List Nat) (acc : Array UInt8), l.foldl (fun acc y => acc ++ (asciiCodec.bytesOf y).toArray) acc = acc ++ (l.map Nat.toUInt8).toArray := by
    intro l
    induction l with
    | nil => intro acc; simp
    | cons a l ih =>
      intro acc
      rw [List.foldl_cons, ih]
      show (acc ++ [a.toUInt8].toArray) ++ _ = _
      apply Array.ext'
      simp
  unfold encodeNarrow
  dsimp only
  rw [Std.Legacy.Range.forIn_eq_forIn_range']
  by_cases h0 : s.length = 0
  · have e0 : s.cps = #[] := by
      apply Array.eq_empty_of_size_eq_zero
      exact h0
    rw [h0]
    show (pure _ >>= _) = _
    rw [pure_bind, e0]
    simp
  · refine (congrArg (· >>= _) (forIn_once _ (0, (#[] : Array UInt8), ({} : Faults)) (s.cps.size, s.cps.map Nat.toUInt8, ({} : Faults)) ?_ ?_ _ ?_)).trans ?_
    · intro x
      have hs : 0 < s.cps.size := Nat.pos_of_ne_zero h0
      rw [if_neg (by simp)]
      dsimp only
      rw [Array.getElem?_eq_getElem hs]
      have hbad : asciiCodec.bad s.cps[0] = false := hb _ (by simp)
      dsimp only
      rw [hbad]
      have ex : s.cps.extract 0 = s.cps := by simp
      rw [if_pos (by rfl), ex, hn]
      have e5 : Array.foldl (fun acc y => acc ++ (asciiCodec.bytesOf y).toArray) #[] (s.cps.extract 0 (none.getD s.cps.size)) = s.cps.map Nat.toUInt8 := by
        have ex2 : s.cps.extract 0 (none.getD s.cps.size) = s.cps := by simp
        rw [ex2, ← Array.foldl_toList, hfold]
        apply Array.ext'
        simp
      rw [e5]
      simp
    · intro x
      rw [if_neg (by simp [sizeLine]; have : s.cps.size = s.length := rfl; (exact Ar.go [_, _] [(.V 1, .N 1000, 1), (.V 0, .V 1, 1)] 1 (.V 0) (.N 16777216) rfl hz (Nat.le_of_eq this)))]
      dsimp only
      rw [Array.getElem?_eq_none (Nat.le_refl _)]
    · intro e
      have : (List.range' 0 (Std.Legacy.Range.size [:s.length]) 1).length = 0 := by
        rw [e]; rfl
      simp [Std.Legacy.Range.size] at this
      exact h0 this
    · rw [pure_bind]
end Mine
end
section
open PySem PySem.Calls PySem.W PyProof.Rows
namespace Mine
open PySem.Builtin PySem.Builtin._codecs
theorem enc_tree (x : Str) (t u : Tok) : «str.encode» ⟨[.str x t, .str (Str.ofString "ascii") u], []⟩ = (do ret (← encodeRoad "str.encode" (.str x t) x (Str.ofString "ascii") none)) := by first | rfl | kernel_rfl
theorem encRoad (id : String) (self : Value) (x : Str) (errors : Option Str) : encodeRoad id self x (Str.ofString "ascii") errors = (do mkBytes (← encodeNarrow id asciiCodec errors self x)) := by
  first | rfl | kernel_rfl | (unfold encodeRoad; rfl)
theorem decRoad {id : String} (b : Array UInt8) : decodeRoad id b (Str.ofString "ascii") none [] = (runDecoder id asciiDecoder none true b 0 [] >>= fun r => mkStr ⟨r.1⟩) := by first | kernel_rfl | rfl
theorem dec_tree (c : UInt8) (cs : List UInt8) (t u : Tok) : «bytes.decode» ⟨[.bytes (c :: cs).toArray t, .str (Str.ofString "ascii") u], []⟩ = (mkStr (Str.ofString "utf-8") >>= fun _ => mkStr (Str.ofString "ascii") >>= fun e => mkStr (Str.ofString "bytes.decode") >>= fun d =>
    call (.builtin "_codecs.decode.text") [.bytes (c :: cs).toArray t, e, .none, d] >>= fun v => ret v) := by kernel_rfl
theorem args_dec (a b : Value) : argsOk "bytes.decode" ⟨[a, b], []⟩ := by unfold argsOk; kernel_rfl
section
variable {prog : Program} {w : World} {A : Around} {E : Value → Shared → Prop} {s : Shared}
noncomputable def octs (x : Str) : Array UInt8 := x.cps.map Nat.toUInt8
theorem enc_call {x : Str} {t u : Tok} {Q : Value → Shared → Prop} (h : ∀ c ∈ x.cps.toList, c < 128) (hz : x.length ≤ 1000) (hQ : ∀ t' k, Q (.bytes (octs x) t') { s with toks := k }) :
    wpAny (model prog w) A (call (.builtin "str.encode") [.str x t, .str (Str.ofString "ascii") u]) Q E s := by
  refine call_meets F.slot_str_encode (typeIs_str _ _ _) F.entry_str_encode (F.args_str_encode_2 _ _) (S := fun _ R s => ∀ t' k, R (.ok (.ret (.bytes (octs x) t'))) { s with toks := k }) (.of_wp fun prog w A R s hR => ?_) hQ
  rw [enc_tree, encRoad, enc_ascii _ _ _ h hz]
  refine wpAny_bind (wpAny_bind (wpAny_pure (wpAny_mkBytes (wpAny_pure ⟨_, rfl, hR _ _⟩) ?_)))
  have : x.cps.size ≤ 1000 := hz
  simp [sizeLine]; (exact Ar.go [_] [(.V 0, .N 1000, 1)] 1 (.V 0) (.N 16777216) rfl this)
theorem enc_method {M : Model} {x : Str} {t : Tok} {pl : Sem Bool} {Q : Value × List Value → Shared → Prop} (h : Q (.builtin "str.encode", [.str x t]) s) : wpAny M A (getMethod (.str x t) (Str.ofString "encode") pl) Q E s := by
  with_reducible exact GM.of (.str x t) (typeIs_str _ _ _) F.slot_str_encode F.type_str_encode GM.noRef h
theorem dec_call {b : Array UInt8} {x : Str} {t u : Tok} {Q : Value → Shared → Prop} (hx : x.cps = b.map (·.toNat)) (h0 : 0 < b.size) (h : ∀ c ∈ b.toList, c.toNat < 128) (hz : b.size ≤ 1000) (hQ : ∀ t' k, Q (.str x t') { s with toks := k }) :
    wpAny (model prog w) A (call (.builtin "bytes.decode") [.bytes b t, .str (Str.ofString "ascii") u]) Q E s := by
  have hxz : x.length ≤ sizeLine := by
    have : x.length = b.size := by show x.cps.size = _; rw [hx]; simp
    rw [this]; simp [sizeLine]; (exact Ar.go [_] [(.V 0, .N 1000, 1)] 1 (.V 0) (.N 16777216) rfl hz)
  obtain ⟨l, rfl⟩ : ∃ l : List UInt8, b = l.toArray := ⟨b.toList, by simp⟩
  obtain _ | ⟨c, cs⟩ := l
  · simp at h0
  refine call_meets FB.slot_bytes_decode (typeIs_bytes _ _ _) FB.entry_bytes_decode (args_dec _ _) (S := fun _ R s => ∀ t' k, R (.ok (.ret (.str x t'))) { s with toks := k }) (.of_wp fun prog w A R s hR => ?_) hQ
  rw [dec_tree]
  refine wpAny_bind (wpAny_mkStr ?_ (by decide))
  refine wpAny_bind (wpAny_mkStr ?_ (by decide))
  refine wpAny_bind (wpAny_mkStr ?_ (by decide))
  refine wpAny_bind (call_function_meets KBd.kind_text KBd.plain_text KBd.entry_text (KBd.args_text _ _ _ _) (S := fun _ R s => R (.ok (.ret (.str x s.toks))) { s with toks := s.toks + 1 }) (.of_wp fun prog w A R s hR => ?_) (wpAny_pure ⟨_, rfl, hR _ _⟩))
  show wpAny _ _ (Bytes.bytesLike _ (.bytes (c :: cs).toArray t) >>= fun r => _) _ _ s
  refine wpAny_bind (wpAny_of_eq KBd.like_eq ?_)
  refine wpAny_bind (wpAny_of_eq KBd.held_eq ?_)
  show wpAny _ _ (_codecs.decodeRoad _ (c :: cs).toArray (PySem.Str.ofString "ascii") none [] >>= fun v => _) _ _ s
  rw [decRoad, dec_ascii _ _ h hz, ← hx]
  refine wpAny_bind (wpAny_bind (wpAny_pure ?_))
  exact wpAny_mkStr (wpAny_pure ⟨_, rfl, hR⟩) hxz
end
end Mine
end
local macro_rules | `(tactic| walk_at "getMethod str") => `(tactic| (k_here; with_reducible refine Mine.enc_method ?_))
section
open Mine.h39 Mine.h40 Mine.h41
open PySem PySem.Calls PySem.W PyProof.Rows
namespace Mine
variable {p : Program} {loose : List Str} {w : World} {mean : ExcName → Option Value} {mg mb : Str → Option Value}


set_option maxHeartbeats 4000000

theorem turnIn_all {P : UInt8 → Prop} {b a : Array UInt8} {i wd : Nat} (hb : ∀ c ∈ b.toList, P c) (h0 : P 0) (ha : ∀ c ∈ a.toList, P c) : ∀ j, ∀ c ∈ (turnIn b a i wd j).toList, P c
  | 0 => ha
  | j + 1 => fun c hc => by
    rw [turnIn_succ, Array.set!_eq_setIfInBounds, Array.toList_setIfInBounds] at hc
    rcases List.mem_or_eq_of_mem_set hc with hc | rfl
    · exact turnIn_all hb h0 ha j c hc
    · by_cases hij : i + j < b.size
      · rw [getElem!_pos b (i + j) hij]
        exact hb _ (by simp)
      · rw [getElem!_neg b (i + j) hij]
        exact h0
theorem turnAll_all {P : UInt8 → Prop} {b : Array UInt8} {wd : Nat} (hb : ∀ c ∈ b.toList, P c) (h0 : P 0) : ∀ q, ∀ c ∈ (turnAll b wd q).toList, P c
  | 0 => fun c hc => by
    rw [show turnAll b wd 0 = Array.replicate b.size 0 from rfl, Array.toList_replicate] at hc
    rw [List.eq_of_mem_replicate hc]; exact h0
  | q + 1 => turnIn_all hb h0 (turnAll_all hb h0 q) wd
theorem swapB_all {P : UInt8 → Prop} {b : Array UInt8} {wd : Nat} (hb : ∀ c ∈ b.toList, P c) (h0 : P 0) : ∀ c ∈ (swapB b wd).toList, P c := turnAll_all hb h0 _
noncomputable def turnText (x : Str) : Str := ⟨(swapB (swapB (octs x) x.length) 3).map (·.toNat)⟩
theorem octs_size (x : Str) : (octs x).size = x.length := by unfold octs; simp; rfl
theorem octs_small {x : Str} (h : ∀ c ∈ x.cps.toList, c < 128) : ∀ c ∈ (octs x).toList, c.toNat < 128 := fun c hc => by
  unfold octs at hc
  rw [Array.toList_map] at hc
  obtain ⟨d, hd, rfl⟩ := List.mem_map.mp hc
  have := h d hd
  show d.toUInt8.toNat < 128
  simp; omega
theorem turned_spec (x : Str) (tx : Tok) (hx : x.length ≤ 1000) (h0 : 0 < x.length) (h3 : x.length % 3 = 0) (ha : ∀ c ∈ x.cps.toList, c < 128) :
  SpecG p loose w mean mg mb 190 30 400 [.str x tx] [] (RStr (turnText x)) := by
  unfold SpecG; k_fill
  intro dp un gd cn cs a ccd cl outer A₀ base h₀ L m news s Q E B F X N T hk hneed hd hu hret
  refine wpG_call ?_
  (refine' code_defG ?k1 ?k2 ?k3 ?k4 ?k5 ?kA ?kF ?kK ?k6 ?k7 ?k8 ?k9 ?kB ?_ ?c2 ?c3 ?c4 ?c5; (case kA | kF => exact rfl); (case kK => assumption); (case k1 | k2 | k3 | k4 | k5 => k_asm); (case k6 | k7 => k_is); (case k8 => ktr_room); (case k9 => first | exact BindsTo.of_eq rfl | exact binds_K (by k_in) rfl (by k_is) rfl rfl rfl); (case c5 => decide); (case kB => exact locs rfl); (case c2 | c3 | c4 => exact rfl); k_whole; intro _ _ _ _ _ _ _ _ _; (try dsimp only); (try k_fold))
  have hos := octs_size x
  refine wpG_execs_then ?_
  (k_steps; repeat (any_goals (refine Halt.go ?_; (first | ((with_reducible show wpAny _ _ (call (Value.type "type") [Value.bytes _ _]) _ _ _); refine call_type_of (Tx := "bytes") (typeIs_bytes _ _ _) (by decide) ?_) | ((refine enc_call (by assumption) (by assumption) ?_); intro _ _; (try dsimp only)) | ((refine dec_call (x := _) rfl (by assumption) (by assumption) (by assumption) ?_); intro _ _; (try dsimp only))); k_steps)))
  refine wpG_execs_cons (wpG_Assign_Name (wpG_Call (a := 44) rfl ?_))
  (k_steps; repeat (any_goals (refine Halt.go ?_; (first | ((with_reducible show wpAny _ _ (call (Value.type "type") [Value.bytes _ _]) _ _ _); refine call_type_of (Tx := "bytes") (typeIs_bytes _ _ _) (by decide) ?_) | ((refine enc_call (by assumption) (by assumption) ?_); intro _ _; (try dsimp only)) | ((refine dec_call (x := _) rfl (by assumption) (by assumption) (by assumption) ?_); intro _ _; (try dsimp only))); k_steps)))
  refine DefCall.go (by k_asm) (by k_asm) (by k_is) ?_
  have hv : ∀ (t1 t2 : Tok) (i : Nat) (v : Value), [Value.int ((octs x).size : Nat) t1, Value.int ((3 : Nat) : Int) t2][i]? = some v → ∃ (wd : Nat) (t : Tok), v = Value.int wd t ∧ [(octs x).size, 3][i]? = some wd := by
    intro t1 t2 i v hv
    rcases i with _ | _ | i
    · exact ⟨_, _, (Option.some.inj hv).symm, rfl⟩
    · exact ⟨_, _, (Option.some.inj hv).symm, rfl⟩
    · exact nomatch (show none = some v from hv)
  have hw : ∀ wd ∈ [(octs x).size, 3], 0 < wd ∧ wd ≤ 1000 ∧ (octs x).size % wd = 0 := by
    intro wd hwd
    rw [octs_size] at hwd ⊢
    rcases List.mem_cons.mp hwd with rfl | hwd
    · exact ⟨h0, hx, Nat.mod_self _⟩
    · rw [List.mem_singleton.mp hwd]; exact ⟨by omega, by omega, h3⟩
  refine' specG_use (reduce_spec _ _ [(octs x).size, 3] 0 (octs x) _ (by rw [octs_size]; exact hx) rfl (hv _ _) hw) ?k1 ?k2 ?k3 ?k4 ?k5 ?kK ?kn ?kd ?ku ?_
  ((case k1 | k2 | k3 | k4 | k5 => k_asm); (case kK => first | exact rfl | assumption); (case kd => ktr_room); (case ku => ktr_units))
  case kn => (intro q hq; rw [List.mem_singleton.mp hq]; exact .head _)
  intro t8 h8 tk8 F8 N8
  dsimp only
  (k_steps; repeat (any_goals (refine Halt.go ?_; (first | ((with_reducible show wpAny _ _ (call (Value.type "type") [Value.bytes _ _]) _ _ _); refine call_type_of (Tx := "bytes") (typeIs_bytes _ _ _) (by decide) ?_) | ((refine enc_call (by assumption) (by assumption) ?_); intro _ _; (try dsimp only)) | ((refine dec_call (x := _) rfl (by assumption) (by assumption) (by assumption) ?_); intro _ _; (try dsimp only))); k_steps)))
  refine wpG_any ?_
  have hb9 : ∀ c ∈ (List.foldl swapB (octs x) [(octs x).size, 3]).toList, c.toNat < 128 := swapB_all (swapB_all (octs_small ha) (by decide)) (by decide)
  have hz9 : (List.foldl swapB (octs x) [(octs x).size, 3]).size ≤ 1000 := by show (swapB (swapB _ _) 3).size ≤ _; rw [swapB_size, swapB_size, octs_size]; exact hx
  have hp9 : 0 < (List.foldl swapB (octs x) [(octs x).size, 3]).size := by show 0 < (swapB (swapB _ _) 3).size; rw [swapB_size, swapB_size, octs_size]; exact h0
  (k_steps; repeat (any_goals (refine Halt.go ?_; (first | ((with_reducible show wpAny _ _ (call (Value.type "type") [Value.bytes _ _]) _ _ _); refine call_type_of (Tx := "bytes") (typeIs_bytes _ _ _) (by decide) ?_) | ((refine enc_call (by assumption) (by assumption) ?_); intro _ _; (try dsimp only)) | ((refine dec_call (x := _) rfl (by assumption) (by assumption) (by assumption) ?_); intro _ _; (try dsimp only))); k_steps)))
  exact ret_str hret (by unfold turnText; rw [octs_size]; rfl) (by k_asm) (cb_drop (by k_asm) (by kcj_all))
end Mine
end
section
open PySem PySem.Calls PySem.W PyProof.Rows PySem.MeetsSeq PySem.AutoSeq1 PySem.MeetsSeq3
namespace Mine
noncomputable def ltL : List Str → List Str → Bool
  | [], [] => false
  | [], _ :: _ => true
  | _ :: _, [] => false
  | x :: xs, y :: ys => if x == y then ltL xs ys else decide (x.cps.toList < y.cps.toList)
theorem strs_at {vs : List Value} {xs : List Str} (h : StrsAre vs xs) : ∀ (i : Nat) (x : Str), xs[i]? = some x → ∃ t, vs[i]? = some (.str x t) := by
  induction h with
  | nil => intro i x hx; simp at hx
  | cons y t _ ih =>
    intro i x hx
    cases i with
    | zero => obtain rfl : y = x := by simpa using hx
              exact ⟨t, rfl⟩
    | succ i => exact ih i x (by simpa using hx)
theorem strs_len {vs : List Value} {xs : List Str} (h : StrsAre vs xs) : vs.length = xs.length := by
  induction h with
  | nil => rfl
  | cons _ _ _ ih => simp [ih]
theorem richLt_str {prog : Program} {w : World} {A : Around} {E : Value → Shared → Prop} {s : Shared} {x y : Str} {t u : Tok} {Q : Value → Shared → Prop} (h : Q (.bool (decide (x.cps.toList < y.cps.toList))) s) : wpAny (model prog w) A (richCompare .Lt (.str x t) (.str y u)) Q E s := lt_str (x := x) (y := y) h
theorem lt_loop (l b : Addr) {vs ws : List Value} {xs ys : List Str} (hx : StrsAre vs xs) (hy : StrsAre ws ys) (n n2 : Nat) (k : Nat) :
    ∀ i : Nat, xs.length - i = k → i ≤ xs.length → i ≤ ys.length → Meets (Builtin.«list.__eq__.loop» ⟨[.ref l, .ref b, rawInt i, rawInt 0], []⟩)
      (fun _ R s => s.heap.get? l = some { cls := .type "list", dict := none, data := .seq vs.toArray n, slots := #[] } ∧ s.heap.get? b = some { cls := .type "list", dict := none, data := .seq ws.toArray n2, slots := #[] } ∧
        R (.ok (.ret (.bool (ltL (xs.drop i) (ys.drop i))))) s) := by
  have hl1 := strs_len hx
  have hl2 := strs_len hy
  have ends : ∀ i : Nat, i ≤ xs.length → i ≤ ys.length → (i = xs.length ∨ i = ys.length) → Meets (Builtin.«list.__eq__.loop» ⟨[.ref l, .ref b, rawInt i, rawInt 0], []⟩)
      (fun _ R s => s.heap.get? l = some { cls := .type "list", dict := none, data := .seq vs.toArray n, slots := #[] } ∧ s.heap.get? b = some { cls := .type "list", dict := none, data := .seq ws.toArray n2, slots := #[] } ∧
        R (.ok (.ret (.bool (ltL (xs.drop i) (ys.drop i))))) s) := by
    intro i h1 h2 he prog w A R s h
    obtain ⟨hp, g, d, tk, os⟩ := s; obtain ⟨hl, hb, h⟩ := h
    have hr : ltL (xs.drop i) (ys.drop i) = decide (xs.length < ys.length) := by
      rcases he with rfl | rfl
      · rw [List.drop_length]
        cases hd : ys.drop xs.length with
        | nil => have : ys.length ≤ xs.length := List.drop_eq_nil_iff.mp hd; simp [ltL]; (exact Ar.go [_, _] [(.V 0, .V 1, 1)] 1 (.V 0) (.V 1) rfl this)
        | cons y r => have : ¬ ys.length ≤ xs.length := fun q => by rw [List.drop_eq_nil_of_le q] at hd; cases hd
                      simp [ltL]; (exact Ar.go [_, _] [(.P (.V 0) (.N 1), .V 1, 1)] 1 (.P (.V 0) (.N 1)) (.V 1) rfl (Nat.lt_of_not_le this))
      · rw [List.drop_length]
        cases hd : xs.drop ys.length with
        | nil => have : xs.length ≤ ys.length := List.drop_eq_nil_iff.mp hd; simp [ltL]; (exact Ar.go [_, _] [(.V 0, .V 1, 1)] 1 (.V 0) (.V 1) rfl h1)
        | cons y r => simp [ltL]; (exact Ar.go [_, _] [(.V 0, .V 1, 1)] 1 (.V 0) (.V 1) rfl h1)
    rw [hr] at h
    wp_walk using wpAny_loadPart' hl, wpAny_loadPart' hb
    have fin : R (.ok (.ret (.bool (decide (vs.toArray.size < ws.toArray.size))))) ⟨hp, g, d, tk, os⟩ := by
      simpa [hl1, hl2] using h
    have en : vs.toArray[((i : Nat) : Int).toNat]? = none ∨ ws.toArray[((i : Nat) : Int).toNat]? = none := by
      rcases he with rfl | rfl
      · left; simp; (exact Ar.go [_, _] [(.V 0, .V 1, 1)] 1 (.V 0) (.V 1) rfl (Nat.le_of_eq hl1))
      · right; simp; (exact Ar.go [_, _] [(.V 0, .V 1, 1)] 1 (.V 0) (.V 1) rfl (Nat.le_of_eq hl2))
    rcases en with e | e
    · rw [e]
      wp_walk using wpAny_loadPart' hl, wpAny_loadPart' hb
      exact fin
    · rw [e]
      cases hq : vs.toArray[((i : Nat) : Int).toNat]? with
      | none =>
        wp_walk using wpAny_loadPart' hl, wpAny_loadPart' hb
        exact fin
      | some z =>
        wp_walk using wpAny_loadPart' hl, wpAny_loadPart' hb
        exact fin
  induction k with
  | zero => exact fun i hk h1 h2 => ends i h1 h2 (.inl (by (exact Nat.le_antisymm (Ar.go [_, _] [(.V 0, .V 1, 1)] 1 (.V 0) (.V 1) rfl h1) (Ar.go [_, _, _] [(.V 2, .N 0, 1), (.V 0, .P (.V 2) (.V 1), 1)] 1 (.V 0) (.V 1) rfl (Nat.le_of_eq hk) (Ar.up _ _)))))
  | succ k ih =>
    intro i hk h1 h2
    by_cases hi2 : i = ys.length
    · exact ends i h1 h2 (.inr hi2)
    intro prog w A R s h
    obtain ⟨hp, g, d, tk, os⟩ := s; obtain ⟨hl, hb, h⟩ := h
    have hx1 : i < xs.length := by (exact Ar.go [_, _, _, _] [(.P (.V 2) (.N 1), .V 3, 1), (.P (.V 3) (.V 0), .V 1, 1)] 1 (.P (.V 0) (.N 1)) (.V 1) rfl (Nat.le_of_eq hk.symm) (Ar.dn (Ar.go [_, _] [(.V 0, .V 1, 1)] 1 (.V 0) (.V 1) rfl h1)))
    have hy1 : i < ys.length := by (exact Ar.go [_, _] [(.P (.V 0) (.N 1), .V 1, 1)] 1 (.P (.V 0) (.N 1)) (.V 1) rfl (Nat.lt_of_le_of_ne (Ar.go [_, _] [(.V 0, .V 1, 1)] 1 (.V 0) (.V 1) rfl h2) hi2))
    obtain ⟨t, ht⟩ := strs_at hx i xs[i] (List.getElem?_eq_getElem hx1)
    obtain ⟨u, hu⟩ := strs_at hy i ys[i] (List.getElem?_eq_getElem hy1)
    have e1 : vs.toArray[((i : Nat) : Int).toNat]? = some (.str xs[i] t) := by simpa using ht
    have e2 : ws.toArray[((i : Nat) : Int).toNat]? = some (.str ys[i] u) := by simpa using hu
    have hc : ((i : Int) + 1) = ((i + 1 : Nat) : Int) := by push_cast; rfl
    rw [List.drop_eq_getElem_cons hx1, List.drop_eq_getElem_cons hy1] at h
    unfold ltL at h
    wp_walk using wpAny_loadPart' hl, wpAny_loadPart' hb
    rw [e1, e2]
    refine wpAny_bind (eqBool_str ?_)
    cases hq : (xs[i] == ys[i]) with
    | true =>
      rw [hq, if_pos rfl] at h
      wp_walk
      rw [hc]
      exact ⟨plainId_quiet plain_eq_loop _, codeAny_builtin entry_eq_loop (by
        rw [Around.under_plainId plain_eq_loop _]
        exact ih (i + 1) (by (exact Nat.le_antisymm (Ar.go [_, _, _, _, _] [(.V 2, .P (.V 1) (.N 1), 1), (.V 3, .P (.V 2) (.V 4), 1), (.P (.V 0) (.P (.V 4) (.N 1)), .V 3, 1)] 1 (.V 0) (.V 1) rfl (Nat.le_of_eq hk) (Ar.up _ _) (Ar.dn (Ar.go [_, _] [(.P (.V 0) (.N 1), .V 1, 1)] 1 (.P (.V 0) (.N 1)) (.V 1) rfl hx1))) (Ar.go [_, _, _, _, _] [(.P (.V 0) (.N 1), .V 2, 1), (.V 3, .P (.V 1) (.P (.V 4) (.N 1)), 1), (.P (.V 2) (.V 4), .V 3, 1)] 1 (.V 0) (.V 1) rfl (Nat.le_of_eq hk.symm) (Ar.up _ _) (Ar.dn (Ar.go [_, _] [(.V 0, .V 1, 1)] 1 (.V 0) (.V 1) rfl h1))))) (by (exact Ar.go [_, _] [(.P (.V 0) (.N 1), .V 1, 1)] 1 (.P (.V 0) (.N 1)) (.V 1) rfl hx1)) (by (exact Ar.go [_, _] [(.P (.V 0) (.N 1), .V 1, 1)] 1 (.P (.V 0) (.N 1)) (.V 1) rfl hy1)) prog w A R _ ⟨hl, hb, h⟩)⟩
    | false =>
      rw [hq, if_neg Bool.false_ne_true] at h
      wp_walk using wpAny_loadPart' hl, wpAny_loadPart' hb
      rw [e1, e2]
      refine wpAny_bind (richLt_str ?_)
      wp_walk
      exact h
theorem list_lt (l b : Addr) {vs ws : List Value} {xs ys : List Str} (hx : StrsAre vs xs) (hy : StrsAre ws ys) (n n2 : Nat) :
    Meets (Builtin.«list.__lt__» ⟨[.ref l, .ref b], []⟩)
      (fun _ R s => s.heap.get? l = some { cls := .type "list", dict := none, data := .seq vs.toArray n, slots := #[] } ∧ s.heap.get? b = some { cls := .type "list", dict := none, data := .seq ws.toArray n2, slots := #[] } ∧
        R (.ok (.ret (.bool (ltL xs ys)))) s) := by
  intro prog w A R s h
  obtain ⟨hp, g, d, tk, os⟩ := s; obtain ⟨hl, hb, h⟩ := h
  have f3 := AutoSeq1.sub_list_list
  wp_walk using wpAny_loadPart' hl, wpAny_loadPart' hb
  exact ⟨plainId_quiet plain_eq_loop _, codeAny_builtin entry_eq_loop (by
    rw [Around.under_plainId plain_eq_loop _]
    exact lt_loop l b hx hy n n2 _ 0 rfl (Nat.zero_le _) (Nat.zero_le _) prog w A R _ ⟨hl, hb, by simpa using h⟩)⟩
end Mine
end
section
open PySem PySem.Calls PySem.W PyProof.Rows PySem.MeetsSeq PySem.AutoSeq1 PySem.MeetsSeq3
namespace Mine
noncomputable def gtL : List Str → List Str → Bool
  | [], _ => false
  | _ :: _, [] => true
  | x :: xs, y :: ys => if x == y then gtL xs ys else decide (y.cps.toList < x.cps.toList)
theorem richGt_str {prog : Program} {w : World} {A : Around} {E : Value → Shared → Prop} {s : Shared} {x y : Str} {t u : Tok} {Q : Value → Shared → Prop} (h : Q (.bool (decide (y.cps.toList < x.cps.toList))) s) : wpAny (model prog w) A (richCompare .Gt (.str x t) (.str y u)) Q E s := by first | exact P.gt_str (x := x) (y := y) h | exact PySem.P.gt_str (x := x) (y := y) h | exact PySem.FString5.gt_str (x := x) (y := y) h
theorem gt_loop (l b : Addr) {vs ws : List Value} {xs ys : List Str} (hx : StrsAre vs xs) (hy : StrsAre ws ys) (n n2 : Nat) (k : Nat) :
    ∀ i : Nat, xs.length - i = k → i ≤ xs.length → i ≤ ys.length → Meets (Builtin.«list.__eq__.loop» ⟨[.ref l, .ref b, rawInt i, rawInt 4], []⟩)
      (fun _ R s => s.heap.get? l = some { cls := .type "list", dict := none, data := .seq vs.toArray n, slots := #[] } ∧ s.heap.get? b = some { cls := .type "list", dict := none, data := .seq ws.toArray n2, slots := #[] } ∧
        R (.ok (.ret (.bool (gtL (xs.drop i) (ys.drop i))))) s) := by
  have hl1 := strs_len hx
  have hl2 := strs_len hy
  have ends : ∀ i : Nat, i ≤ xs.length → i ≤ ys.length → (i = xs.length ∨ i = ys.length) → Meets (Builtin.«list.__eq__.loop» ⟨[.ref l, .ref b, rawInt i, rawInt 4], []⟩)
      (fun _ R s => s.heap.get? l = some { cls := .type "list", dict := none, data := .seq vs.toArray n, slots := #[] } ∧ s.heap.get? b = some { cls := .type "list", dict := none, data := .seq ws.toArray n2, slots := #[] } ∧
        R (.ok (.ret (.bool (gtL (xs.drop i) (ys.drop i))))) s) := by
    intro i h1 h2 he prog w A R s h
    obtain ⟨hp, g, d, tk, os⟩ := s; obtain ⟨hl, hb, h⟩ := h
    have hr : gtL (xs.drop i) (ys.drop i) = decide (ys.length < xs.length) := by
      rcases he with rfl | rfl
      · rw [List.drop_length]
        cases hd : ys.drop xs.length with
        | nil => have : ys.length ≤ xs.length := List.drop_eq_nil_iff.mp hd; simp [gtL]; (exact Ar.go [_, _] [(.V 0, .V 1, 1)] 1 (.V 0) (.V 1) rfl h2)
        | cons y r => simp [gtL]; (exact Ar.go [_, _] [(.V 0, .V 1, 1)] 1 (.V 0) (.V 1) rfl h2)
      · rw [List.drop_length]
        cases hd : xs.drop ys.length with
        | nil => have : xs.length ≤ ys.length := List.drop_eq_nil_iff.mp hd; simp [gtL]; (exact Ar.go [_, _] [(.V 0, .V 1, 1)] 1 (.V 0) (.V 1) rfl this)
        | cons y r => have : ¬ xs.length ≤ ys.length := fun q => by rw [List.drop_eq_nil_of_le q] at hd; cases hd
                      simp [gtL]; (exact Ar.go [_, _] [(.P (.V 0) (.N 1), .V 1, 1)] 1 (.P (.V 0) (.N 1)) (.V 1) rfl (Nat.lt_of_not_le this))
    rw [hr] at h
    wp_walk using wpAny_loadPart' hl, wpAny_loadPart' hb
    have fin : R (.ok (.ret (.bool (decide (ws.toArray.size < vs.toArray.size))))) ⟨hp, g, d, tk, os⟩ := by
      simpa [hl1, hl2] using h
    have en : vs.toArray[((i : Nat) : Int).toNat]? = none ∨ ws.toArray[((i : Nat) : Int).toNat]? = none := by
      rcases he with rfl | rfl
      · left; simp; (exact Ar.go [_, _] [(.V 0, .V 1, 1)] 1 (.V 0) (.V 1) rfl (Nat.le_of_eq hl1))
      · right; simp; (exact Ar.go [_, _] [(.V 0, .V 1, 1)] 1 (.V 0) (.V 1) rfl (Nat.le_of_eq hl2))
    rcases en with e | e
    · rw [e]
      wp_walk using wpAny_loadPart' hl, wpAny_loadPart' hb
      exact fin
    · rw [e]
      cases hq : vs.toArray[((i : Nat) : Int).toNat]? with
      | none =>
        wp_walk using wpAny_loadPart' hl, wpAny_loadPart' hb
        exact fin
      | some z =>
        wp_walk using wpAny_loadPart' hl, wpAny_loadPart' hb
        exact fin
  induction k with
  | zero => exact fun i hk h1 h2 => ends i h1 h2 (.inl (by (exact Nat.le_antisymm (Ar.go [_, _] [(.V 0, .V 1, 1)] 1 (.V 0) (.V 1) rfl h1) (Ar.go [_, _, _] [(.V 2, .N 0, 1), (.V 0, .P (.V 2) (.V 1), 1)] 1 (.V 0) (.V 1) rfl (Nat.le_of_eq hk) (Ar.up _ _)))))
  | succ k ih =>
    intro i hk h1 h2
    by_cases hi2 : i = ys.length
    · exact ends i h1 h2 (.inr hi2)
    intro prog w A R s h
    obtain ⟨hp, g, d, tk, os⟩ := s; obtain ⟨hl, hb, h⟩ := h
    have hx1 : i < xs.length := by (exact Ar.go [_, _, _, _] [(.P (.V 2) (.N 1), .V 3, 1), (.P (.V 3) (.V 0), .V 1, 1)] 1 (.P (.V 0) (.N 1)) (.V 1) rfl (Nat.le_of_eq hk.symm) (Ar.dn (Ar.go [_, _] [(.V 0, .V 1, 1)] 1 (.V 0) (.V 1) rfl h1)))
    have hy1 : i < ys.length := by (exact Ar.go [_, _] [(.P (.V 0) (.N 1), .V 1, 1)] 1 (.P (.V 0) (.N 1)) (.V 1) rfl (Nat.lt_of_le_of_ne (Ar.go [_, _] [(.V 0, .V 1, 1)] 1 (.V 0) (.V 1) rfl h2) hi2))
    obtain ⟨t, ht⟩ := strs_at hx i xs[i] (List.getElem?_eq_getElem hx1)
    obtain ⟨u, hu⟩ := strs_at hy i ys[i] (List.getElem?_eq_getElem hy1)
    have e1 : vs.toArray[((i : Nat) : Int).toNat]? = some (.str xs[i] t) := by simpa using ht
    have e2 : ws.toArray[((i : Nat) : Int).toNat]? = some (.str ys[i] u) := by simpa using hu
    have hc : ((i : Int) + 1) = ((i + 1 : Nat) : Int) := by push_cast; rfl
    rw [List.drop_eq_getElem_cons hx1, List.drop_eq_getElem_cons hy1] at h
    unfold gtL at h
    wp_walk using wpAny_loadPart' hl, wpAny_loadPart' hb
    rw [e1, e2]
    refine wpAny_bind (eqBool_str ?_)
    cases hq : (xs[i] == ys[i]) with
    | true =>
      rw [hq, if_pos rfl] at h
      wp_walk
      rw [hc]
      exact ⟨plainId_quiet plain_eq_loop _, codeAny_builtin entry_eq_loop (by
        rw [Around.under_plainId plain_eq_loop _]
        exact ih (i + 1) (by (exact Nat.le_antisymm (Ar.go [_, _, _, _, _] [(.V 2, .P (.V 1) (.N 1), 1), (.V 3, .P (.V 2) (.V 4), 1), (.P (.V 0) (.P (.V 4) (.N 1)), .V 3, 1)] 1 (.V 0) (.V 1) rfl (Nat.le_of_eq hk) (Ar.up _ _) (Ar.dn (Ar.go [_, _] [(.P (.V 0) (.N 1), .V 1, 1)] 1 (.P (.V 0) (.N 1)) (.V 1) rfl hx1))) (Ar.go [_, _, _, _, _] [(.P (.V 0) (.N 1), .V 2, 1), (.V 3, .P (.V 1) (.P (.V 4) (.N 1)), 1), (.P (.V 2) (.V 4), .V 3, 1)] 1 (.V 0) (.V 1) rfl (Nat.le_of_eq hk.symm) (Ar.up _ _) (Ar.dn (Ar.go [_, _] [(.V 0, .V 1, 1)] 1 (.V 0) (.V 1) rfl h1))))) (by (exact Ar.go [_, _] [(.P (.V 0) (.N 1), .V 1, 1)] 1 (.P (.V 0) (.N 1)) (.V 1) rfl hx1)) (by (exact Ar.go [_, _] [(.P (.V 0) (.N 1), .V 1, 1)] 1 (.P (.V 0) (.N 1)) (.V 1) rfl hy1)) prog w A R _ ⟨hl, hb, h⟩)⟩
    | false =>
      rw [hq, if_neg Bool.false_ne_true] at h
      wp_walk using wpAny_loadPart' hl, wpAny_loadPart' hb
      rw [e1, e2]
      refine wpAny_bind (richGt_str ?_)
      wp_walk
      exact h
theorem list_gt (l b : Addr) {vs ws : List Value} {xs ys : List Str} (hx : StrsAre vs xs) (hy : StrsAre ws ys) (n n2 : Nat) :
    Meets (Builtin.«list.__gt__» ⟨[.ref l, .ref b], []⟩)
      (fun _ R s => s.heap.get? l = some { cls := .type "list", dict := none, data := .seq vs.toArray n, slots := #[] } ∧ s.heap.get? b = some { cls := .type "list", dict := none, data := .seq ws.toArray n2, slots := #[] } ∧
        R (.ok (.ret (.bool (gtL xs ys)))) s) := by
  intro prog w A R s h
  obtain ⟨hp, g, d, tk, os⟩ := s; obtain ⟨hl, hb, h⟩ := h
  have f3 := AutoSeq1.sub_list_list
  wp_walk using wpAny_loadPart' hl, wpAny_loadPart' hb
  exact ⟨plainId_quiet plain_eq_loop _, codeAny_builtin entry_eq_loop (by
    rw [Around.under_plainId plain_eq_loop _]
    exact gt_loop l b hx hy n n2 _ 0 rfl (Nat.zero_le _) (Nat.zero_le _) prog w A R _ ⟨hl, hb, by simpa using h⟩)⟩
theorem args_list_gt (a b : Value) : argsOk "list.__gt__" ⟨[a, b], []⟩ := by unfold argsOk; kernel_rfl
section
variable {prog : Program} {w : World} {A : Around} {E : Value → Shared → Prop} {s : Shared} {h₀ : Heap} {L l b : Addr} {news : List (Addr × Obj)} {vs ws : List Value} {xs ys : List Str} {n n2 : Nat} {Q : Value → Shared → Prop}
theorem lt_led (N : News h₀ L s.heap news) (hl : (l, listOf vs.toArray n) ∈ news) (hb : (b, listOf ws.toArray n2) ∈ news) (hx : StrsAre vs xs) (hy : StrsAre ws ys) (hu : A.units < cLine) (h : Q (.bool (ltL xs ys)) s) :
    wpAny (model prog w) A (richCompare .Lt (.ref l) (.ref b)) Q E s :=
  richCompare_meets_room (T := "list") ⟨_, (N _ hl).1, rfl⟩ ⟨_, (N _ hb).1, rfl⟩ F.slot_list_lt F.entry_list_lt (F.args_list_lt_2 _ _) (list_lt l b hx hy n n2) ⟨(N _ hl).1, (N _ hb).1, by simp, h⟩ hu
end
end Mine
end
section
open PySem PySem.Calls PySem.W PyProof.Rows
namespace Mine
section
variable {prog : Program} {w : World} {A : Around} {E : Value → Shared → Prop} {s : Shared} {value slice : Expr} {h₀ : Heap} {L l : Addr} {m : Str → Option Value} {news : List (Addr × Obj)} {vs zs : List Value} {n : Nat} {lo hi st : Option Int} {vl vu vt : Value} {Q : Value → Shared → Prop}
theorem slice_led (F : Fr h₀ L s.heap m) (N : News h₀ L s.heap news) (hm : (l, listOf vs.toArray n) ∈ news) (pl : IsPart vl lo) (pu : IsPart vu hi) (ps : IsPart vt st) (h0 : st ≠ some 0) (hz : vs.length ≤ 1000) (e : slicePick vs.toArray lo hi st = zs.toArray)
    (h : ∀ D h', (∀ p ∈ news, p.1 < D) → Fr h₀ L h' m → News h₀ L h' ((D, listOf zs.toArray 0) :: news) → Q (.ref D) { s with heap := h' })
    {ops : List Value} (hs : subscripted slice false (.ref l) (.ref s.heap.objs.size) = operate ops (getItem (.ref l) (.ref s.heap.objs.size)) := by with_unfolding_all rfl) :
    wpAny (model prog w) A (subscriptTail value slice (.ref l) (.ref s.heap.objs.size)) Q E { s with heap := s.heap.push { cls := .type "slice", data := .fields #[vl, vu, vt] } } := by
  have hl := led_list N hm
  have hl' : (s.heap.push { cls := .type "slice", data := .fields #[vl, vu, vt] }).IsList l vs.toArray := hl.push _
  have N' : News h₀ L (s.heap.push { cls := .type "slice", data := .fields #[vl, vu, vt] }) news := News.pushKeep N _
  have F' := F.push { cls := .type "slice", data := .fields #[vl, vu, vt] }
  refine tail_any (s := { s with heap := s.heap.push { cls := .type "slice", data := .fields #[vl, vu, vt] } }) hl'.typeIs slot_list_getitem.lookup (wpAny_getItem_list_slice hl' (Heap.IsSliceOf.new _ _ _ _) pl pu ps h0 ?_ (by simp [sizeLine]; (exact Ar.go [_] [(.V 0, .N 1000, 1)] 1 (.V 0) (.N 16777216) rfl hz))) hs
  rw [e]
  exact h _ _ (fun p hp => Nat.lt_of_lt_of_le (Heap.lt_size (N p hp).1) (by rw [Heap.size_push]; exact Nat.le_succ _)) (F'.push _) (News.push F' N' _ rfl)
end
end Mine
end
section
open PySem PySem.Calls PySem.W PyProof.Rows PySem.MeetsSeq PySem.AutoSeq1 PySem.MeetsSeq3
namespace Mine
theorem all_eq : ∀ (xs ys : List Str), xs.length = ys.length → ((List.range xs.length).all fun j => xs[j]? == ys[j]?) = (xs == ys)
  | [], [], _ => rfl
  | x :: xs, y :: ys, h => by
    have h' : xs.length = ys.length := by simpa using h
    rw [List.length_cons, List.range_succ_eq_map, List.all_cons, List.all_map]
    have ih := all_eq xs ys h'
    have e : ((fun j => (x :: xs)[j]? == (y :: ys)[j]?) ∘ Nat.succ) = fun j => xs[j]? == ys[j]? := by funext j; simp
    rw [e, ih]
    simp [List.cons_beq_cons]
theorem list_eq_strs (l b : Addr) {vs ws : List Value} {xs ys : List Str} (hx : StrsAre vs xs) (hy : StrsAre ws ys) (n n2 : Nat) :
    Meets (Builtin.«list.__eq__» ⟨[.ref l, .ref b], []⟩)
      (fun _ R s => s.heap.get? l = some { cls := .type "list", dict := none, data := .seq vs.toArray n, slots := #[] } ∧ s.heap.get? b = some { cls := .type "list", dict := none, data := .seq ws.toArray n2, slots := #[] } ∧
        R (.ok (.ret (.bool (xs == ys)))) s) := by
  have hl1 := strs_len hx
  have hl2 := strs_len hy
  by_cases hsz : xs.length = ys.length
  · intro prog w A R s h
    have h1 : (List.range vs.toArray.size).all (fun j => xs[j]? == ys[j]?) = (xs == ys) := by
      rw [List.size_toArray, hl1]; exact all_eq xs ys hsz
    refine list_eq l b vs.toArray ws.toArray n n2 (by simp [hl1, hl2, hsz]) (fun j => xs[j]? == ys[j]?) (fun j a1 a2 => ?_) prog w A R s ⟨h.1, h.2.1, by rw [h1]; exact h.2.2⟩
    have a1' : j < xs.length := by simpa [hl1] using a1
    have a2' : j < ys.length := by simpa [hl2] using a2
    obtain ⟨t, ht⟩ := strs_at hx j xs[j] (List.getElem?_eq_getElem a1')
    obtain ⟨u, hu⟩ := strs_at hy j ys[j] (List.getElem?_eq_getElem a2')
    have e1 : vs.toArray[j] = .str xs[j] t := by
      have := (Array.getElem?_eq_getElem a1).symm.trans (by simpa using ht); simpa using this
    have e2 : ws.toArray[j] = .str ys[j] u := by
      have := (Array.getElem?_eq_getElem a2).symm.trans (by simpa using hu); simpa using this
    rw [e1, e2, List.getElem?_eq_getElem a1', List.getElem?_eq_getElem a2']
    exact eqGives_str _ _ _ _
  · intro prog w A R s h
    obtain ⟨hp, g, d, tk, os⟩ := s; obtain ⟨hl, hb, h⟩ := h
    have hr : (xs == ys) = false := by
      rw [beq_eq_false_iff_ne]; intro e; rw [e] at hsz; exact hsz rfl
    rw [hr] at h
    have f3 := AutoSeq1.sub_list_list
    have hne : (vs.toArray.size != ws.toArray.size) = true := by simp [hl1, hl2, hsz]
    wp_walk using wpAny_loadPart' hl, wpAny_loadPart' hb
    exact h
end Mine
end
section
open PySem PySem.Calls PySem.W PyProof.Rows PySem.MeetsSeq PySem.AutoSeq1 PySem.MeetsSeq3
namespace Mine
theorem strs_fun {vs : List Value} {xs ys : List Str} (h : StrsAre vs xs) (h' : StrsAre vs ys) : xs = ys := by
  induction h generalizing ys with
  | nil => cases h'; rfl
  | cons y t _ ih =>
    cases h' with
    | cons z u r => rw [ih r]
section
variable {prog : Program} {w : World} {A : Around} {E : Value → Shared → Prop} {s : Shared} {l b : Addr} {vs ws : List Value} {xs ys : List Str} {n n2 : Nat}
noncomputable def IsStrs (h : Heap) (l : Addr) (xs : List Str) : Prop := ∃ vs n, h.get? l = some (listOf vs.toArray n) ∧ StrsAre vs xs
theorem IsStrs.led {h₀ h : Heap} {L : Addr} {news : List (Addr × Obj)} (N : News h₀ L h news) (hm : (l, listOf vs.toArray n) ∈ news) (hx : StrsAre vs xs) : IsStrs h l xs := ⟨vs, n, (N _ hm).1, hx⟩
theorem eq_strs {Q : Value → Shared → Prop} (hl : IsStrs s.heap l xs) (hb : IsStrs s.heap b ys) (hu : A.units < cLine) (h : Q (.bool (xs == ys)) s) :
    wpAny (model prog w) A (richCompare .Eq (.ref l) (.ref b)) Q E s := by
  obtain ⟨vs, n, e1, hx⟩ := hl
  obtain ⟨ws, n2, e2, hy⟩ := hb
  exact richCompare_meets_room (T := "list") ⟨_, e1, rfl⟩ ⟨_, e2, rfl⟩ F.slot_list_eq F.entry_list_eq (F.args_list_eq_2 _ _) (list_eq_strs l b hx hy n n2) ⟨e1, e2, by simp, h⟩ hu
theorem eqBool_strs {Q : Bool → Shared → Prop} (hl : IsStrs s.heap l xs) (hb : IsStrs s.heap b ys) (hu : A.units < cLine) (h : Q (xs == ys) s) :
    wpAny (model prog w) A (eqBool (.ref l) (.ref b)) Q E s := by
  unfold eqBool
  try with_reducible refine wpAny_holding ?_
  show wpAny _ _ (if (Value.ref l == Value.ref b) = true then _ else _) Q E s
  by_cases hab : (Value.ref l == Value.ref b) = true
  · rw [if_pos hab]
    have e : l = b := by have := eq_of_beq hab; injection this
    subst e
    obtain ⟨vs, n, e1, hx⟩ := hl
    obtain ⟨ws, n2, e2, hy⟩ := hb
    rw [e1] at e2
    have e3 : vs = ws := by
      have := Option.some.inj e2
      injection this with _ _ hd _
      injection hd with hd _
      simpa using hd
    subst e3
    obtain rfl := strs_fun hx hy
    exact wpAny_bind (wpAny_rule (wpAny_pure (by simpa using h)))
  · rw [if_neg hab]
    exact wpAny_bind (eq_strs hl hb hu (wpAny_truthy_bool h))
theorem count_entry : entryFor table "list.count.loop" = some Builtin.«list.count.loop» := entryFor_of_fast (by kernel_rfl)
theorem count_plain : plainId "list.count.loop" = true := by decide +kernel
end
end Mine
end
section
open PySem PySem.Calls PySem.W PyProof.Rows PySem.MeetsSeq PySem.AutoSeq1 PySem.MeetsSeq3
namespace Mine
section
variable {prog : Program} {w : World} {A : Around} {s : Shared} {R : Result → Shared → Prop} {l b : Addr} {vs : List Value} {rs : List (List Str)} {ys : List Str} {n : Nat}
noncomputable def RowsAt (h : Heap) (vs : List Value) (rs : List (List Str)) : Prop := vs.length = rs.length ∧ ∀ (i : Nat) (r : List Str), rs[i]? = some r → ∃ a, vs[i]? = some (Value.ref a) ∧ IsStrs h a r
theorem count_loop (hl : s.heap.IsList l vs.toArray) (hr : RowsAt s.heap vs rs) (hb : IsStrs s.heap b ys) (hu : A.units + 10 < cLine) (k : Nat) :
    ∀ i c : Nat, vs.length - i = k → (∀ t tk, R (.ok (.ret (.int ((c + (rs.drop i).count ys : Nat) : Int) t))) { s with toks := tk }) →
      codeAny (model prog w) A (.builtin "list.count.loop" ⟨[.ref l, .ref b, rawInt i, rawInt c], []⟩) R s := by
  obtain ⟨ol, hol, hoc, nl, hod⟩ := id hl
  induction k with
  | zero =>
    intro i c hk h
    refine codeAny_builtin count_entry ?_
    rw [Around.under_plainId count_plain _]
    have hd : rs.drop i = [] := by rw [List.drop_eq_nil_iff]; have := hr.1; (exact Ar.go [_, _, _, _] [(.V 2, .N 0, 1), (.V 0, .V 3, 1), (.V 3, .P (.V 2) (.V 1), 1)] 1 (.V 0) (.V 1) rfl (Nat.le_of_eq hk) (Nat.le_of_eq this.symm) (Ar.up _ _))
    rw [hd] at h
    have hi : vs.toArray[((i : Nat) : Int).toNat]? = none := by simp; (exact Ar.go [_, _, _] [(.V 2, .N 0, 1), (.V 0, .P (.V 2) (.V 1), 1)] 1 (.V 0) (.V 1) rfl (Nat.le_of_eq hk) (Ar.up _ _))
    show wpAny _ _ (Builtin.List.listItems (.ref l) >>= _) _ _ s
    unfold Builtin.List.listItems
    refine wpAny_bind (wpAny_bind (wpAny_seqItems hol hod (wpAny_pure ?_)))
    dsimp only
    rw [hi]
    have h' : ∀ t tk, R (.ok (.ret (.int (c : Int) t))) { s with toks := tk } := by simpa using h
    exact fun _ _ _ => h' _ _
  | succ k ih =>
    intro i c hk h
    refine codeAny_builtin count_entry ?_
    rw [Around.under_plainId count_plain _]
    have h1 : i < vs.length := by lia
    have h2 : i < rs.length := by have := hr.1; (exact Ar.go [_, _, _] [(.P (.V 0) (.N 1), .V 2, 1), (.V 2, .V 1, 1)] 1 (.P (.V 0) (.N 1)) (.V 1) rfl h1 (Nat.le_of_eq this))
    obtain ⟨a, ha, hs⟩ := hr.2 i rs[i] (List.getElem?_eq_getElem h2)
    have hi : vs.toArray[((i : Nat) : Int).toNat]? = some (.ref a) := by simpa using ha
    rw [List.drop_eq_getElem_cons h2] at h
    show wpAny _ _ (Builtin.List.listItems (.ref l) >>= _) _ _ s
    unfold Builtin.List.listItems
    refine wpAny_bind (wpAny_bind (wpAny_seqItems hol hod (wpAny_pure ?_)))
    dsimp only
    rw [hi]
    refine wpAny_bind (eqBool_strs hs hb (by show A.units + 1 < cLine; (exact Ar.go [_, _] [(.P (.P (.V 0) (.N 10)) (.N 1), .V 1, 1)] 1 (.P (.P (.V 0) (.N 1)) (.N 1)) (.V 1) rfl hu)) ?_)
    have hc : ((i : Int) + 1) = ((i + 1 : Nat) : Int) := by push_cast; rfl
    have hc2 : ((c : Int) + 1) = ((c + 1 : Nat) : Int) := by push_cast; rfl
    cases hq : (rs[i] == ys) with
    | true =>
      refine wpAny_pure ⟨plainId_quiet count_plain _, ?_⟩
      show codeAny _ _ (.builtin "list.count.loop" ⟨[.ref l, .ref b, rawInt ((i : Int) + 1), rawInt ((c : Int) + 1)], []⟩) _ _
      rw [hc, hc2]
      refine ih (i + 1) (c + 1) (by (exact Nat.le_antisymm (Ar.go [_, _, _, _, _] [(.V 2, .P (.V 1) (.N 1), 1), (.V 3, .P (.V 2) (.V 4), 1), (.P (.V 0) (.P (.V 4) (.N 1)), .V 3, 1)] 1 (.V 0) (.V 1) rfl (Nat.le_of_eq hk) (Ar.up _ _) (Ar.dn (Ar.go [_, _] [(.P (.V 0) (.N 1), .V 1, 1)] 1 (.P (.V 0) (.N 1)) (.V 1) rfl h1))) (Ar.go [_, _, _, _, _] [(.P (.V 0) (.N 1), .V 2, 1), (.V 3, .P (.V 1) (.P (.V 4) (.N 1)), 1), (.P (.V 2) (.V 4), .V 3, 1)] 1 (.V 0) (.V 1) rfl (Nat.le_of_eq hk.symm) (Ar.up _ _) (Ar.dn (Ar.go [_, _] [(.P (.V 0) (.N 1), .V 1, 1)] 1 (.V 0) (.V 1) rfl h1))))) fun t tk => ?_
      have := h t tk
      rw [List.count_cons, hq, if_pos rfl] at this
      rw [show c + 1 + (rs.drop (i + 1)).count ys = c + ((rs.drop (i + 1)).count ys + 1) by (exact Nat.le_antisymm (Ar.go [_, _] [] 1 (.P (.P (.V 0) (.N 1)) (.V 1)) (.P (.V 0) (.P (.V 1) (.N 1))) rfl) (Ar.go [_, _] [] 1 (.P (.V 0) (.P (.V 1) (.N 1))) (.P (.P (.V 0) (.N 1)) (.V 1)) rfl))]
      exact this
    | false =>
      refine wpAny_pure ⟨plainId_quiet count_plain _, ?_⟩
      show codeAny _ _ (.builtin "list.count.loop" ⟨[.ref l, .ref b, rawInt ((i : Int) + 1), rawInt (c : Int)], []⟩) _ _
      rw [hc]
      refine ih (i + 1) c (by (exact Nat.le_antisymm (Ar.go [_, _, _, _, _] [(.V 2, .P (.V 1) (.N 1), 1), (.V 3, .P (.V 2) (.V 4), 1), (.P (.V 0) (.P (.V 4) (.N 1)), .V 3, 1)] 1 (.V 0) (.V 1) rfl (Nat.le_of_eq hk) (Ar.up _ _) (Ar.dn (Ar.go [_, _] [(.P (.V 0) (.N 1), .V 1, 1)] 1 (.P (.V 0) (.N 1)) (.V 1) rfl h1))) (Ar.go [_, _, _, _, _] [(.P (.V 0) (.N 1), .V 2, 1), (.V 3, .P (.V 1) (.P (.V 4) (.N 1)), 1), (.P (.V 2) (.V 4), .V 3, 1)] 1 (.V 0) (.V 1) rfl (Nat.le_of_eq hk.symm) (Ar.up _ _) (Ar.dn (Ar.go [_, _] [(.P (.V 0) (.N 1), .V 1, 1)] 1 (.V 0) (.V 1) rfl h1))))) fun t tk => ?_
      have := h t tk
      rw [List.count_cons, hq, if_neg Bool.false_ne_true] at this
      exact this
end
end Mine
end
section
open PySem PySem.Calls PySem.W PyProof.Rows
namespace Mine
section
variable {prog : Program} {w : World} {A : Around} {E : Value → Shared → Prop} {s : Shared} {l b : Addr} {vs : List Value} {rs : List (List Str)} {ys : List Str} {n : Nat}
theorem count_entry0 : entryFor table "list.count" = some Builtin.«list.count» := entryFor_of_fast (by kernel_rfl)
theorem count_plain0 : plainId "list.count" = true := by decide +kernel
theorem count_slot : Slot "list" "count" "list.count" :=
  .of (owner := "list") (n := "count") (by rw [typeLookup_type, builtinLookup_eq_fast]; kernel_rfl) (by decide +kernel) (by decide +kernel) (by decide +kernel)
    (by first | exact .inl (by decide +kernel) | exact .inr (by decide +kernel)) (by rw [isSubtype_type]; kernel_rfl)
theorem count_args (a b : Value) : argsOk "list.count" ⟨[a, b], []⟩ := by unfold argsOk; kernel_rfl
theorem count_call {Q : Value → Shared → Prop} (hl : s.heap.IsList l vs.toArray) (hr : RowsAt s.heap vs rs) (hb : IsStrs s.heap b ys) (hu : A.units + 10 < cLine)
    (h : ∀ t tk, Q (.int (((rs.count ys : Nat)) : Int) t) { s with toks := tk }) : wpAny (model prog w) A (call (.builtin "list.count") [.ref l, .ref b]) Q E s := by
  refine wpAny_call (codeAny_call_builtin count_plain0 count_entry0 (count_slot.check _ _ _ _ _ _ _ _ hl.typeIs (count_args _ _) ?_))
  show wpAny _ _ (do let x ← _; again (.builtin "list.count.loop" _)) _ _ s
  refine wpAny_bind (wpAny_of_eq (a := (Value.ref l, Value.ref b)) (by first | rfl | kernel_rfl) ?_)
  refine wpAny_pure ⟨plainId_quiet count_plain _, ?_⟩
  refine count_loop (c := 0) (i := 0) hl hr hb hu _ rfl fun t tk => ?_
  simpa using h t tk
end
end Mine
end
section
open PySem PySem.Calls PySem.W PyProof.Rows
set_option genInjectivity false
set_option genSizeOf false
namespace Mine
noncomputable abbrev NoE' : Value → Shared → Prop := fun _ _ => False
noncomputable def TurnA (h₀ : Heap) (L : Addr) (own : List (Addr × Obj)) (adr : List Addr) (J : (Str → Option Value) → List (Addr × Obj) → Prop) (R : Result → Shared → Prop) (s : Shared) (f : Flow) (s' : Shared) : Prop := match f with
  | .next | .cont => ∃ h' tk' m' nx, s' = { s with heap := h', toks := tk' } ∧ Fr h₀ L h' m' ∧ News h₀ L h' (nx ++ own) ∧ nx.map (·.1) = adr ∧ J m' nx
  | .brk => R (.ok .next) s'
  | .ret v => R (.ok (.ret v)) s'
section
variable {prog : Program} {w : World} {A : Around} {s : Shared} {env : Env} {h₀ : Heap}
inductive WalkInv (s : Shared) (St : Nat → Heap → Prop) (h₀ : Heap) (L : Addr) (as : List Addr) (J : Nat → (Str → Option Value) → List (Addr × Obj) → Prop) (n : Nat) : Nat → Shared → Prop
  | mk (h' : Heap) (tk : Nat) (m' : Str → Option Value) (nx : List (Addr × Obj)) (i : Nat) (hst : St i h') (F : Fr h₀ L h' m') (N : News h₀ L h' nx) (ha : nx.map (·.1) = as) (hJ : J i m' nx) (hi : i ≤ n) : WalkInv s St h₀ L as J n (n + 1 - i) { s with heap := h', toks := tk }
theorem codeA_walk {R : Result → Shared → Prop} {x : Str} {px : Pos} {body : List Stmt} {I : Addr} {fp wr : List Addr} {n : Nat} {P : Nat → Value → Prop} {St : Nat → Heap → Prop} {m₀ : Str → Option Value} {news : List (Addr × Obj)}
    (W : Walks prog w A I fp wr n P St) (hLf : env.locals ∉ fp) (hwr : ∀ b ∈ wr, h₀.get? b = none) (hnw : ∀ p ∈ news, p.1 ∉ wr) (hfp : ∀ q ∈ news, q.1 ∉ fp)
    (hst : St 0 s.heap) (F : Fr h₀ env.locals s.heap m₀) (N : News h₀ env.locals s.heap news)
    (J : Nat → (Str → Option Value) → List (Addr × Obj) → Prop) (h0 : J 0 m₀ news)
    (turn : ∀ i v m₁ nx h tk own, i < n → P i v → nx.map (·.1) = news.map (·.1) → OwnOff own (news.map (·.1)) → J i m₁ nx → Fr h₀ env.locals h m₁ → News h₀ env.locals h (nx ++ own) →
      wpAny (model prog w) A (storeName env x v) (fun _ s₂ => wpAny (model prog w) A (execs body env) (TurnA h₀ env.locals own (news.map (·.1)) (J (i + 1)) R s) NoE' s₂) NoE' { s with heap := h, toks := tk })
    (done : ∀ m₁ nx h tk, J n m₁ nx → Fr h₀ env.locals h m₁ → News h₀ env.locals h nx → R (.ok .next) { s with heap := h, toks := tk }) :
    codeAny (model prog w) A (.forLoop (.Name x px) (.ref I) body [] env) R s := by
  have hLw : env.locals ∉ wr := fun h => hLf (W.sub _ h)
  have old : ∀ b o, h₀.get? b = some o → b ∉ wr := fun b o e hb => by rw [hwr b hb] at e; cases e
  have off : ∀ {nx : List (Addr × Obj)} {S : List Addr}, nx.map (·.1) = news.map (·.1) → (∀ q ∈ news, q.1 ∉ S) → ∀ q ∈ nx, q.1 ∉ S := fun {nx S} ha hq q hq' hm => by
    have h1 : q.1 ∈ nx.map (·.1) := List.mem_map.mpr ⟨q, hq', rfl⟩
    rw [ha] at h1
    obtain ⟨r, hr, er⟩ := List.mem_map.mp h1
    exact hq r hr (by rw [er]; exact hm)
  refine codeAny_forLoop_any
    (WalkInv s St h₀ env.locals (news.map (·.1)) J n) ?_ (n + 1)
    (.mk s.heap s.toks m₀ news 0 hst F N rfl h0 (Nat.zero_le _))
  rintro k s' ⟨h', tk, m', nx, i, hst', F', N', hadr, hJ, hi⟩
  have hnw' := off hadr hnw
  have next : ∀ h₁ : Heap, (∀ b o, b ∉ wr → h'.get? b = some o → h₁.get? b = some o) → Fr h₀ env.locals h₁ m' ∧ News h₀ env.locals h₁ nx := fun h₁ hk₁ =>
    ⟨⟨F'.ns.at' fun o e => hk₁ _ o hLw e, fun b o e => hk₁ b o (old b o e) (F'.keep b o e), F'.above⟩, fun p hp => ⟨hk₁ _ _ (hnw' p hp) (N' p hp).1, (N' p hp).2⟩⟩
  by_cases hlt : i < n
  · refine W.item i _ _ _ hlt hst' fun v h₁ tk₁ hP hst₁ hk₁ => ?_
    obtain ⟨F₁, N₁⟩ := next h₁ hk₁
    have Nown : News h₀ env.locals h₁ (ownOf h₀ fp h₁) := news_ownOf hLf
    have hsep : OwnOff (ownOf h₀ fp h₁) (news.map (·.1)) := by
      intro p hp b hb e
      obtain ⟨q, hq, rfl⟩ := List.mem_map.mp hb
      exact hfp q hq (e ▸ ownOf_sub p hp)
    have N₂ : News h₀ env.locals h₁ (nx ++ ownOf h₀ fp h₁) := fun p hp => (List.mem_append.mp hp).elim (fun h => N₁ p h) fun h => Nown p h
    refine wpAny_of_eq (a := ()) rfl (wpAny_assign_Name ?_)
    refine wpAny_mono (turn i v m' nx h₁ tk₁ (ownOf h₀ fp h₁) hlt hP hadr hsep hJ F₁ N₂)
      (fun _ s₂ h₂ => wpAny_mono h₂ (fun f s₃ h₃ => ?_) fun _ _ e => e.elim) fun _ _ e => e.elim
    have fin : (∃ h'' tk' m'' nx', s₃ = { s with heap := h'', toks := tk' } ∧ Fr h₀ env.locals h'' m'' ∧ News h₀ env.locals h'' (nx' ++ ownOf h₀ fp h₁) ∧ nx'.map (·.1) = news.map (·.1) ∧ J (i + 1) m'' nx') →
        ∃ m, m < n + 1 - i ∧ WalkInv s St h₀ env.locals (news.map (·.1)) J n m s₃ := by
      rintro ⟨h₃', tk₃, m₂, nx₂, rfl, F₃, N₃, ha₃, hJ₃⟩
      refine ⟨n + 1 - (i + 1), by (exact Ar.go [_, _, _, _] [(.P (.V 2) (.N 1), .P (.V 1) (.V 3), 1), (.P (.V 0) (.P (.V 3) (.N 1)), .P (.V 2) (.N 1), 1)] 1 (.P (.V 0) (.N 1)) (.V 1) rfl (Ar.up _ _) (Ar.dn (Ar.go [_, _] [(.V 0, .V 1, 1)] 1 (.P (.V 0) (.N 1)) (.P (.V 1) (.N 1)) rfl hi))), .mk h₃' tk₃ m₂ nx₂ (i + 1) ?_ F₃ (fun p hp => N₃ p (List.mem_append_left _ hp)) ha₃ hJ₃ hlt⟩
      refine W.frame _ _ _ hst₁ fun b hb o e => ?_
      cases hn : h₀.get? b with
      | some o₀ =>
        have : o₀ = o := by have := F₁.keep b o₀ hn; rw [e] at this; exact (Option.some.inj this).symm
        exact this ▸ F₃.keep b o₀ hn
      | none => exact (N₃ _ (List.mem_append_right _ (mem_ownOf hb hn e))).1
    cases f with
    | ret v => exact h₃
    | brk => exact h₃
    | next => exact fin h₃
    | cont => exact fin h₃
  · have hin : i = n := by (exact Nat.le_antisymm (Ar.go [_, _] [(.V 0, .V 1, 1)] 1 (.V 0) (.V 1) rfl hi) (Ar.go [_, _] [(.V 0, .V 1, 1)] 1 (.V 0) (.V 1) rfl (Nat.le_of_not_lt hlt)))
    subst hin
    refine W.done _ _ _ hst' fun h₁ tk₁ hk₁ => wpAny_execs_nil ?_
    obtain ⟨F₁, N₁⟩ := next h₁ hk₁
    exact done m' nx h₁ tk₁ hJ F₁ N₁
theorem wpAny_ForA {target iter : Expr} {body : List Stmt} {pos : Pos} {Q : Flow → Shared → Prop} {E : Value → Shared → Prop}
    (h : wpAny (model prog w) A (eval iter env) (fun x s₁ => wpAny (model prog w) A (pyIter x) (fun it s₂ =>
      codeAny (model prog w) A (.forLoop target it body [] env) (fun r s' => match r with | .ok f => Q f s' | .error _ => False) s₂) E s₁) E s)
    (hs : ∀ x, foldedSetIterable iter env x = pure x := by intro _; rfl) : wpAny (model prog w) A (exec (.For target iter body [] pos) env) Q E s :=
  wpAny_For (wpAny_mono h (fun xv s₁ h₁ => wpAny_mono h₁ (fun it s₂ h₂ => codeAny_mono h₂ fun r s' hr => by
    cases r with
    | ok f => exact hr
    | error e => exact hr.elim) fun _ _ e => e) fun _ _ e => e) hs
theorem rangeA {R : Result → Shared → Prop} {x : Str} {px : Pos} {body : List Stmt} {E : Value → Shared → Prop} {r : Addr} {a b c : Int} {t u v : Tok} {n : Nat} {m₀ : Str → Option Value} {news : List (Addr × Obj)} (J : Nat → (Str → Option Value) → List (Addr × Obj) → Prop)
    (hh : A.handled = none) (hr : IsRange s.heap r a b c t u v) (hsmall : Builtin.Range.small a b c = true) (hn : Builtin.Range.rangeSize a b c = (n : Int))
    (F : Fr h₀ env.locals s.heap m₀) (N : News h₀ env.locals s.heap news) (h0 : J 0 m₀ news)
    (turn : ∀ i t m₁ nx h tk own, i < n → nx.map (·.1) = news.map (·.1) → OwnOff own (news.map (·.1)) → J i m₁ nx → Fr h₀ env.locals h m₁ → News h₀ env.locals h (nx ++ own) →
      wpAny (model prog w) A (storeName env x (.int (a + (i : Nat) * c) t)) (fun _ s₂ => wpAny (model prog w) A (execs body env) (TurnA h₀ env.locals own (news.map (·.1)) (J (i + 1)) R s) NoE' s₂) NoE' { s with heap := h, toks := tk })
    (done : ∀ m₁ nx h tk, J n m₁ nx → Fr h₀ env.locals h m₁ → News h₀ env.locals h nx → R (.ok .next) { s with heap := h, toks := tk }) :
    wpAny (model prog w) A (pyIter (.ref r)) (fun it s₂ => codeAny (model prog w) A (.forLoop (.Name x px) it body [] env) R s₂) E s := by
  refine wpAny_pyIter_range hr hsmall ?_
  refine codeA_walk (Walks.range hh s.heap.objs.size a c n) ?_ ?_ ?_ ?_ (by show IsRangeIter _ _ _ _ _; rw [hn]; simpa using Heap.get?_push_size _ rfl) (F.push _)
    (fun p hp => ⟨Heap.get?_push_of_some _ (N p hp).1, (N p hp).2⟩) J h0 ?_ (fun m₁ nx h tk hJ F' N' => done m₁ nx h tk hJ F' N')
  · intro hm
    exact absurd F.ns.lt ((List.mem_singleton.mp hm) ▸ Nat.lt_irrefl _)
  · intro b hb
    rw [List.mem_singleton.mp hb]
    exact next_is_new F
  · intro p hp hI
    exact absurd (Heap.lt_size (N p hp).1) ((List.mem_singleton.mp hI) ▸ Nat.lt_irrefl _)
  · intro p hp hI
    exact absurd (Heap.lt_size (N p hp).1) ((List.mem_singleton.mp hI) ▸ Nat.lt_irrefl _)
  · rintro i v m₁ nx h tk own hi ⟨t, rfl⟩ ha hown hJ F₁ N₁
    exact turn i t m₁ nx h tk own hi ha hown hJ F₁ N₁
end
end Mine
end
section
open PySem PySem.Calls PySem.W PyProof.Rows
namespace Mine
noncomputable def TurnC (h₀ : Heap) (L : Addr) (D ck : Addr) (tail : List (Addr × Obj)) (y : Str) (m₀ : Str → Option Value) (O : Obj → Prop) (R : Result → Shared → Prop) (s : Shared) (f : Flow) (s' : Shared) : Prop := match f with
  | .next | .cont => ∃ h' tk' m' o' c' x', s' = { s with heap := h', toks := tk' } ∧ Fr h₀ L h' m' ∧ News h₀ L h' ((D, o') :: (ck, c') :: tail) ∧ O o' ∧ c'.data = Data.cell x' ∧ ∀ z, z ≠ y → m' z = m₀ z
  | .brk => R (.ok .next) s'
  | .ret v => R (.ok (.ret v)) s'
theorem TurnC.next {h₀ h' : Heap} {L D ck : Addr} {o' c' : Obj} {x' : Option Value} {tail : List (Addr × Obj)} {y : Str} {m₀ m' : Str → Option Value} {O : Obj → Prop} {R : Result → Shared → Prop} {s : Shared} {tk' : Nat}
    (F : Fr h₀ L h' m') (N : News h₀ L h' ((D, o') :: (ck, c') :: tail)) (hO : O o') (hc : c'.data = Data.cell x') (hm : ∀ z, z ≠ y → m' z = m₀ z) : TurnC h₀ L D ck tail y m₀ O R s .next { s with heap := h', toks := tk' } :=
  ⟨h', tk', m', o', c', x', rfl, F, N, hO, hc, hm⟩
section
variable {prog : Program} {w : World} {A : Around} {s : Shared} {env : Env} {h₀ : Heap}
theorem rangeC {R : Result → Shared → Prop} {x : Str} {px : Pos} {body : List Stmt} {E : Value → Shared → Prop} {r D ck : Addr} {a b c : Int} {t u v : Tok} {n : Nat} {y : Str} {m₀ : Str → Option Value} {rest : List (Addr × Obj)} {o₀ c₀ : Obj} {x₀ : Option Value} (O : Nat → Obj → Prop)
    (hh : A.handled = none) (hr : IsRange s.heap r a b c t u v) (hsmall : Builtin.Range.small a b c = true) (hn : Builtin.Range.rangeSize a b c = (n : Int))
    (F : Fr h₀ env.locals s.heap m₀) (N : News h₀ env.locals s.heap ((D, o₀) :: (ck, c₀) :: rest)) (h0 : O 0 o₀) (hc : c₀.data = Data.cell x₀)
    (turn : ∀ i t w' o c1 x1 h tk own, i < n → O i o → c1.data = Data.cell x1 → (∀ p ∈ own, p.1 ≠ D) → (∀ p ∈ own, p.1 ≠ ck) → (∀ p ∈ own, ∀ q ∈ rest, p.1 ≠ q.1) → Fr h₀ env.locals h (fun z => if z = y then w' else m₀ z) → News h₀ env.locals h ((D, o) :: (ck, c1) :: (rest ++ own)) →
      wpAny (model prog w) A (storeName env x (.int (a + (i : Nat) * c) t)) (fun _ s₂ => wpAny (model prog w) A (execs body env) (TurnC h₀ env.locals D ck (rest ++ own) y m₀ (O (i + 1)) R s) NoE' s₂) NoE' { s with heap := h, toks := tk })
    (done : ∀ w' o c1 x1 h tk, O n o → c1.data = Data.cell x1 → Fr h₀ env.locals h (fun z => if z = y then w' else m₀ z) → News h₀ env.locals h ((D, o) :: (ck, c1) :: rest) → R (.ok .next) { s with heap := h, toks := tk }) :
    wpAny (model prog w) A (pyIter (.ref r)) (fun it s₂ => codeAny (model prog w) A (.forLoop (.Name x px) it body [] env) R s₂) E s := by
  refine rangeA (n := n) (fun i m nx => ∃ o c1 x1, nx = (D, o) :: (ck, c1) :: rest ∧ O i o ∧ c1.data = Data.cell x1 ∧ ∀ z, z ≠ y → m z = m₀ z) hh hr hsmall hn F N ⟨o₀, c₀, x₀, rfl, h0, hc, fun _ _ => rfl⟩ ?_ ?_
  · rintro i t m₁ nx h tk own hi ha hown ⟨o, c1, x1, rfl, hO, hc1, hm⟩ F₁ N₁
    rw [form1 hm] at F₁
    refine wpAny_mono (turn i t (m₁ y) o c1 x1 h tk own hi hO hc1 (fun p hp => hown p hp _ (.head _)) (fun p hp => hown p hp _ (.tail _ (.head _))) (fun p hp q hq => hown p hp _ (.tail _ (.tail _ (List.mem_map_of_mem hq)))) F₁ N₁)
      (fun _ s₂ h₂ => wpAny_mono h₂ (fun f s₃ h₃ => ?_) fun _ _ e => e) fun _ _ e => e
    cases f with
    | ret v => exact h₃
    | brk => exact h₃
    | next => obtain ⟨h', tk', m', o', c', x', e, F', N', hO', hc', hm'⟩ := h₃; exact ⟨h', tk', m', (D, o') :: (ck, c') :: rest, e, F', N', rfl, o', c', x', rfl, hO', hc', hm'⟩
    | cont => obtain ⟨h', tk', m', o', c', x', e, F', N', hO', hc', hm'⟩ := h₃; exact ⟨h', tk', m', (D, o') :: (ck, c') :: rest, e, F', N', rfl, o', c', x', rfl, hO', hc', hm'⟩
  · rintro m₁ nx h tk ⟨o, c1, x1, rfl, hO, hc1, hm⟩ F₁ N₁
    rw [form1 hm] at F₁
    exact done (m₁ y) o c1 x1 h tk hO hc1 F₁ N₁
theorem News.sub {h₀ h : Heap} {L : Addr} {l l' : List (Addr × Obj)} (N : News h₀ L h l) (hs : ∀ p ∈ l', p ∈ l) : News h₀ L h l' := fun p hp => N p (hs p hp)
end
end Mine
end
section
open PySem
namespace Mine
theorem pick_rev' {α : Type} : ∀ (r : List α), ((List.range r.length).map fun k => r.length - 1 - k).filterMap (fun i => r.reverse[i]?) = r
  | [] => rfl
  | a :: r => by
    have ih := pick_rev' r
    rw [List.length_cons, List.range_succ_eq_map, List.map_cons, List.map_map, List.filterMap_cons]
    have e1 : (a :: r).reverse[r.length + 1 - 1 - 0]? = some a := by simp
    rw [e1]
    have e2 : List.map ((fun k => r.length + 1 - 1 - k) ∘ Nat.succ) (List.range r.length) = (List.range r.length).map fun k => r.length - 1 - k := by
      refine List.map_congr_left fun k hk => ?_
      simp only [Function.comp]
      lia
    rw [e2]
    have gen : ∀ l : List Nat, (∀ k ∈ l, k < r.length) → l.filterMap (fun i => (a :: r).reverse[i]?) = l.filterMap (fun i => r.reverse[i]?) := by
      intro l
      induction l with
      | nil => intro _; rfl
      | cons k l ihl =>
        intro hl
        have hk : k < r.length := hl k (.head _)
        have e : (a :: r).reverse[k]? = r.reverse[k]? := by
          rw [List.reverse_cons, List.getElem?_append_left (by simpa using hk)]
        rw [List.filterMap_cons, List.filterMap_cons, e, ihl fun j hj => hl j (.tail _ hj)]
    rw [gen _ (fun k hk => by
      obtain ⟨j, hj, rfl⟩ := List.mem_map.mp hk
      have := List.mem_range.mp hj
      (exact Ar.go [_, _, _] [(.V 0, .V 2, 1), (.P (.V 2) (.N 1), .V 1, 1)] 1 (.P (.V 0) (.N 1)) (.V 1) rfl (Nat.sub_le _ _) (Ar.dn (Ar.go [_, _] [(.P (.V 1) (.N 1), .V 0, 1)] 1 (.N 1) (.V 0) rfl this)))), ih]
theorem pick_rev {α : Type} (l : List α) : ((List.range l.length).map fun k => l.length - 1 - k).filterMap (fun i => l[i]?) = l.reverse := by
  have h := pick_rev' l.reverse
  simpa using h
theorem pick_all_rev (vs : List Value) : slicePick vs.toArray none none (some (-1)) = vs.reverse.toArray := by
  unfold slicePick
  have e : sliceBounds none none (some (-1)) vs.toArray.size = ((vs.length : Int) - 1, -1, -1) := by
    unfold sliceBounds
    simp
  rw [e]
  dsimp only
  rw [rev_range]
  have := pick_rev vs
  simp only [List.getElem?_toArray]
  rw [this]
theorem range_up (k : Nat) : sliceRange 0 (k : Int) 1 = List.range k := by
  unfold sliceRange
  rw [if_pos (by decide)]
  by_cases h : (0 : Int) < (k : Int)
  · rw [if_pos h]
    dsimp only
    have e : (((k : Int) - 0 + 1 - 1) / 1).toNat = k := by rw [Int.ediv_one]; lia
    rw [e]
    have e2 : (fun j : Nat => (0 + 1 * (j : Int)).toNat) = fun j => j := by funext j; lia
    rw [e2]; simp
  · have : k = 0 := by lia
    subst this
    rfl
theorem pick_take' {α : Type} (l : List α) : ∀ k, k ≤ l.length → (List.range k).filterMap (fun i => l[i]?) = l.take k
  | 0, _ => by simp
  | k + 1, h => by
    rw [List.range_succ, List.filterMap_append, pick_take' l k (by (exact Ar.go [_, _] [(.P (.V 0) (.N 1), .V 1, 1)] 1 (.V 0) (.V 1) rfl h)), List.take_add_one]
    have : l[k]? = some l[k] := List.getElem?_eq_getElem (by (exact Ar.go [_, _] [(.P (.V 0) (.N 1), .V 1, 1)] 1 (.P (.V 0) (.N 1)) (.V 1) rfl h))
    simp [this]
theorem pick_take (vs : List Value) (k : Nat) : slicePick vs.toArray none (some (k : Int)) none = (vs.take k).toArray := by
  unfold slicePick
  have e : sliceBounds none (some (k : Int)) none vs.toArray.size = (0, ((min k vs.length : Nat) : Int), 1) := by
    unfold sliceBounds
    simp
    lia
  rw [e]
  dsimp only
  rw [range_up]
  simp only [List.getElem?_toArray]
  rw [pick_take' vs _ (Nat.min_le_right _ _)]
  congr 1
  rcases Nat.le_total k vs.length with h | h
  · rw [Nat.min_eq_left h]
  · rw [Nat.min_eq_right h, List.take_of_length_le (Nat.le_refl _), List.take_of_length_le h]
end Mine
end
section
open PySem PySem.Calls PySem.W PyProof.Rows
namespace Mine
theorem strs_rev {vs : List Value} {ss : List Str} (h : StrsAre vs ss) : StrsAre vs.reverse ss.reverse := by
  induction h with
  | nil => exact .nil
  | cons y t _ ih => rw [List.reverse_cons, List.reverse_cons]; exact StrsAre.append' ih (strs_one y t)
theorem strs_take {vs : List Value} {ss : List Str} (h : StrsAre vs ss) : ∀ k, StrsAre (vs.take k) (ss.take k) := by
  induction h with
  | nil => intro k; rw [List.take_nil, List.take_nil]; exact .nil
  | cons y t _ ih =>
    intro k
    cases k with
    | zero => exact .nil
    | succ k => rw [List.take_succ_cons, List.take_succ_cons]; exact .cons y t (ih k)
section
variable {prog : Program} {w : World} {A : Around} {E : Value → Shared → Prop} {s : Shared} {value slice : Expr} {h₀ : Heap} {L l : Addr} {m : Str → Option Value} {news : List (Addr × Obj)} {vs zs : List Value} {n : Nat} {t : Tok} {Q : Value → Shared → Prop}
theorem rev_led (F : Fr h₀ L s.heap m) (N : News h₀ L s.heap news) (hm : (l, listOf vs.toArray n) ∈ news) (hz : vs.length ≤ 1000)
    (h : ∀ D h', (∀ p ∈ news, p.1 < D) → Fr h₀ L h' m → News h₀ L h' ((D, listOf vs.reverse.toArray 0) :: news) → Q (.ref D) { s with heap := h' })
    {ops : List Value} (hs : subscripted slice false (.ref l) (.ref s.heap.objs.size) = operate ops (getItem (.ref l) (.ref s.heap.objs.size)) := by with_unfolding_all rfl) :
    wpAny (model prog w) A (subscriptTail value slice (.ref l) (.ref s.heap.objs.size)) Q E { s with heap := s.heap.push { cls := .type "slice", data := .fields #[.none, .none, .int (-1) t] } } :=
  slice_led F N hm .none .none (.int _ _) (by decide) hz (pick_all_rev vs) h hs
theorem take_led {k : Nat} {i : Int} (F : Fr h₀ L s.heap m) (N : News h₀ L s.heap news) (hm : (l, listOf vs.toArray n) ∈ news) (hz : vs.length ≤ 1000) (e : i = (k : Int))
    (h : ∀ D h', (∀ p ∈ news, p.1 < D) → Fr h₀ L h' m → News h₀ L h' ((D, listOf (vs.take k).toArray 0) :: news) → Q (.ref D) { s with heap := h' })
    {ops : List Value} (hs : subscripted slice false (.ref l) (.ref s.heap.objs.size) = operate ops (getItem (.ref l) (.ref s.heap.objs.size)) := by with_unfolding_all rfl) :
    wpAny (model prog w) A (subscriptTail value slice (.ref l) (.ref s.heap.objs.size)) Q E { s with heap := s.heap.push { cls := .type "slice", data := .fields #[.none, .int i t, .none] } } := by
  subst e
  exact slice_led F N hm .none (.int _ _) .none (by simp) hz (pick_take vs k) h hs
end
end Mine
end
section
open PySem PySem.Spec PySem.Calls PySem.W PyProof.Rows
namespace Mine
section
variable {prog : Program} {w : World} {A : Around} {s : Shared} {h₀ : Heap} {L : Addr} {m : Str → Option Value} {env : Env} {ct elt : Expr} {x : Str} {scope : Scope} {cl : List (Str × Addr)} {S : List (Addr × Obj) → Prop} {P : Nat → Value → Prop} {Fin : List Value → List (Addr × Obj) → Prop} {news : List (Addr × Obj)}
theorem endMono {s₁ s₂ : Shared} {I C D : Addr} {oI oC oD : Obj} {r r' : Value → List (Addr × Obj) → Prop} {y : Value} (h : LCg.CompEnd h₀ L m s₁ I oI C oC D oD S r y s₂) (hr : ∀ nw, r y nw → r' y nw) : LCg.CompEnd h₀ L m s₁ I oI C oC D oD S r' y s₂ := by
  obtain ⟨h', tk', nw', e, F', N', off', hS, hr'⟩ := h
  exact ⟨h', tk', nw', e, F', N', off', hS, hr _ hr'⟩
theorem comp_invT {n : Nat} (J : Nat → List Value → List (Addr × Obj) → Prop) (h0 : J 0 [] news)
    (turn : ∀ i v I oI C oC D m₂ ys nw h tk (E' : Value → Shared → Prop), i < n → J i ys nw → P i v → LCg.NsObj oC m₂ → m₂ x = some v → Fr h₀ L h m → News h₀ L h ((I, oI) :: (C, oC) :: (D, LCg.lst ys) :: nw) → LCg.Off3 I C D nw → ((@Ne Nat I C) ∧ (@Ne Nat I D) ∧ (@Ne Nat C D)) →
      wpAny (model prog w) A (isTrue ct (compEnvC scope cl C env) (eval ct (compEnvC scope cl C env))) (fun ok s' => if ok = true then
        wpAny (model prog w) A (eval elt (compEnvC scope cl C env)) (LCg.CompEnd h₀ L m { s with heap := h, toks := tk } I oI C oC D (LCg.lst ys) S (fun y nw' => J (i + 1) (ys ++ [y]) nw')) E' s'
        else LCg.CompEnd h₀ L m { s with heap := h, toks := tk } I oI C oC D (LCg.lst ys) S (fun _ nw' => J (i + 1) ys nw') Value.none s') E' { s with heap := h, toks := tk })
    (fin : ∀ ys nw, J n ys nw → Fin ys nw) : LCt.CompRestT prog w A h₀ L m env ct elt x scope cl s S P Fin n 0 [] news := by
  have key : ∀ (j i : Nat) (ys : List Value) (nw : List (Addr × Obj)), i + j = n → J i ys nw → LCt.CompRestT prog w A h₀ L m env ct elt x scope cl s S P Fin j i ys nw := by
    intro j
    induction j with
    | zero =>
      intro i ys nw hi hJ
      have e : i = n := by (exact Nat.le_antisymm (Ar.go [_, _] [(.P (.V 0) (.N 0), .V 1, 1)] 1 (.V 0) (.V 1) rfl (Nat.le_of_eq hi)) (Ar.go [_, _] [(.V 0, .P (.V 1) (.N 0), 1)] 1 (.V 0) (.V 1) rfl (Nat.le_of_eq hi.symm)))
      subst e
      exact LCt.CompRestT.zero (fin ys nw hJ)
    | succ j ih =>
      intro i ys nw hi hJ
      refine LCt.CompRestT.succ ?_
      intro v I oI C oC D m₂ h tk E' hv hC hx F N off ne
      refine wpAny_mono (turn i v I oI C oC D m₂ ys nw h tk E' (by (exact Ar.go [_, _, _] [(.P (.V 0) (.P (.V 2) (.N 1)), .V 1, 1)] 1 (.P (.V 0) (.N 1)) (.V 1) rfl (Nat.le_of_eq hi))) hJ hv hC hx F N off ne) (fun ok s₂ hq => ?_) fun _ _ e => e
      cases ok with
      | false =>
        rw [if_neg Bool.false_ne_true] at hq ⊢
        exact endMono hq fun nw' hr => ih (i + 1) _ _ (by (exact Nat.le_antisymm (Ar.go [_, _, _] [(.P (.V 0) (.P (.V 1) (.N 1)), .V 2, 1)] 1 (.P (.P (.V 0) (.N 1)) (.V 1)) (.V 2) rfl (Nat.le_of_eq hi)) (Ar.go [_, _, _] [(.V 0, .P (.V 1) (.P (.V 2) (.N 1)), 1)] 1 (.V 0) (.P (.P (.V 1) (.N 1)) (.V 2)) rfl (Nat.le_of_eq hi.symm)))) hr
      | true =>
        rw [if_pos rfl] at hq ⊢
        refine wpAny_mono hq (fun y s₃ hq3 => endMono hq3 fun nw' hr => ih (i + 1) _ _ (by (exact Nat.le_antisymm (Ar.go [_, _, _] [(.P (.V 0) (.P (.V 1) (.N 1)), .V 2, 1)] 1 (.P (.P (.V 0) (.N 1)) (.V 1)) (.V 2) rfl (Nat.le_of_eq hi)) (Ar.go [_, _, _] [(.V 0, .P (.V 1) (.P (.V 2) (.N 1)), 1)] 1 (.V 0) (.P (.P (.V 1) (.N 1)) (.V 2)) rfl (Nat.le_of_eq hi.symm)))) hr) fun _ _ e => e
  exact key n 0 [] news (by (exact Nat.le_antisymm (Ar.go [_] [] 1 (.P (.N 0) (.V 0)) (.V 0) rfl) (Ar.go [_] [] 1 (.V 0) (.P (.N 0) (.V 0)) rfl))) h0
end
end Mine
end
section
open PySem
namespace Mine
noncomputable def ltR (q r : List Str) : Bool := ltL q.reverse r.reverse
noncomputable def placeOf (rs : List (List Str)) (k : Nat) (r : List Str) : Nat := (rs.filter fun q => ltR q r).length + (rs.take k).count r
noncomputable def ordAt (rs : List (List Str)) : Nat → List (Option Nat)
  | 0 => List.replicate rs.length none
  | i + 1 => match rs[i]? with
    | some r => (ordAt rs i).set (placeOf rs i r) (some i)
    | none => ordAt rs i
theorem ordAt_len (rs : List (List Str)) : ∀ i, (ordAt rs i).length = rs.length
  | 0 => by simp [ordAt]
  | i + 1 => by
    unfold ordAt
    split
    · rw [List.length_set, ordAt_len rs i]
    · exact ordAt_len rs i
theorem ltL_irrefl : ∀ r : List Str, ltL r r = false
  | [] => rfl
  | x :: r => by simp [ltL, ltL_irrefl r]
theorem countLe {α : Type} [BEq α] [LawfulBEq α] (p : α → Bool) (r : α) (hp : p r = false) : ∀ l : List α, (l.filter p).length + l.count r ≤ l.length
  | [] => by simp
  | a :: l => by
    have ih := countLe p r hp l
    rw [List.filter_cons, List.count_cons]
    by_cases h : a == r
    · have : a = r := eq_of_beq h
      subst this
      simp [hp]
      (exact Ar.go [_, _, _] [(.P (.V 0) (.V 1), .V 2, 1)] 1 (.P (.V 0) (.P (.V 1) (.N 1))) (.P (.V 2) (.N 1)) rfl ih)
    · rw [if_neg h]
      split <;> simp <;> (first | (exact Ar.go [_, _, _] [(.P (.V 0) (.V 1), .V 2, 1)] 1 (.P (.P (.V 0) (.N 1)) (.V 1)) (.P (.V 2) (.N 1)) rfl ih) | (exact Ar.go [_, _, _] [(.P (.V 0) (.V 1), .V 2, 1)] 1 (.P (.V 0) (.V 1)) (.P (.V 2) (.N 1)) rfl ih))
theorem placeOf_lt {rs : List (List Str)} {k : Nat} {r : List Str} (h : rs[k]? = some r) : placeOf rs k r < rs.length := by
  obtain ⟨hk, e⟩ := List.getElem?_eq_some_iff.mp h
  have hs : rs = rs.take k ++ r :: rs.drop (k + 1) := by
    rw [← e, ← List.drop_eq_getElem_cons hk, List.take_append_drop]
  have hp : ltR r r = false := ltL_irrefl _
  have h1 := countLe (fun q => ltR q r) r hp (rs.take k)
  have h2 := List.length_filter_le (fun q => ltR q r) (rs.drop (k + 1))
  unfold placeOf
  have h3 : (rs.filter fun q => ltR q r).length = ((rs.take k).filter fun q => ltR q r).length + ((rs.drop (k + 1)).filter fun q => ltR q r).length := by
    conv => lhs; rw [hs]
    rw [List.filter_append, List.filter_cons, hp, List.length_append]
    simp
  have h4 : (rs.take k).length = k := by rw [List.length_take]; (exact Nat.le_antisymm (Ar.go [_, _] [(.V 0, .V 1, 1)] 1 (.V 0) (.V 1) rfl (Nat.min_le_left _ _)) (Ar.go [_, _] [(.V 0, .V 1, 1)] 1 (.V 0) (.V 1) rfl (Nat.le_of_eq (Nat.min_eq_left (Ar.go [_, _] [(.P (.V 0) (.N 1), .V 1, 1)] 1 (.V 0) (.V 1) rfl hk)).symm)))
  have h5 : (rs.drop (k + 1)).length = rs.length - (k + 1) := List.length_drop
  (exact Ar.go [_, _, _, _, _, _, _, _, _] [(.P (.V 3) (.V 1), .V 4, 1), (.V 5, .V 6, 1), (.V 0, .P (.V 3) (.V 5), 1), (.V 4, .V 7, 1), (.V 6, .V 8, 1), (.P (.V 8) (.P (.V 7) (.N 1)), .V 2, 1)] 1 (.P (.P (.V 0) (.V 1)) (.N 1)) (.V 2) rfl h1 h2 (Nat.le_of_eq h3) (Nat.le_of_eq h4) (Nat.le_of_eq h5) (Ar.dn (Ar.go [_, _] [(.P (.V 0) (.N 1), .V 1, 1)] 1 (.P (.V 0) (.N 1)) (.V 1) rfl hk)))
noncomputable def OrdAre (vs : List Value) (os : List (Option Nat)) : Prop := vs.length = os.length ∧ ∀ (j : Nat) (o : Option Nat), os[j]? = some o → match o with
  | none => vs[j]? = some Value.none
  | some k => ∃ t, vs[j]? = some (Value.int (k : Int) t)
theorem ord_nil (n : Nat) : OrdAre (List.replicate n Value.none) (List.replicate n none) := ⟨by simp, fun j o h => by
  rw [List.getElem?_replicate] at h
  split at h
  · cases h
    simp [*]
  · cases h⟩
theorem ord_set {vs : List Value} {os : List (Option Nat)} {p k : Nat} {t : Tok} (h : OrdAre vs os) (hp : p < os.length) : OrdAre (vs.set p (Value.int (k : Int) t)) (os.set p (some k)) := by
  refine ⟨by rw [List.length_set, List.length_set, h.1], fun j o hj => ?_⟩
  by_cases hpj : p = j
  · subst hpj
    rw [List.getElem?_set_self hp] at hj
    cases hj
    exact ⟨t, List.getElem?_set_self (by rw [h.1]; exact hp)⟩
  · rw [List.getElem?_set_ne hpj] at hj
    have := h.2 j o hj
    cases o with
    | none => rw [List.getElem?_set_ne hpj]; exact this
    | some k' => obtain ⟨t', ht⟩ := this; exact ⟨t', by rw [List.getElem?_set_ne hpj]; exact ht⟩
end Mine
end
section
open Mine.h16 Mine.h2 Mine.h3 Mine.h0 Mine.h4 Mine.h5 Mine.h6 Mine.h7 Mine.h8 Mine.h9
open PySem PySem.Spec PySem.Calls PySem.W PyProof.Rows
namespace Mine
variable {p : Program} {loose : List Str} {w : World} {mean : ExcName → Option Value} {mg mb : Str → Option Value}
theorem call_len_led {prog : Program} {w : World} {A : Around} {E : Value → Shared → Prop} {s : Shared} {h₀ : Heap} {L l : Addr} {news : List (Addr × Obj)} {vs : List Value} {n : Nat} {Q : Value → Shared → Prop} (N : News h₀ L s.heap news) (hm : (l, listOf vs.toArray n) ∈ news) (hf : vs.length ≤ 1000)
    (h : Q (.int (vs.length : Nat) (s.toks + 1)) { s with toks := s.toks + 1 + 1 }) : wpAny (model prog w) A (call (.builtin "len") [.ref l]) Q E s :=
  Calls.call_len_list (led_list N hm) (by simp; (exact Ar.cl (n := 9223372036854775808) (Ar.go [_] [(.V 0, .N 1000, 1)] 1 (.P (.V 0) (.N 1)) (.N 9223372036854775808) rfl hf) (by rfl))) (by simpa using h)
theorem set_led {prog : Program} {w : World} {A : Around} {E : Value → Shared → Prop} {s : Shared} {h₀ : Heap} {L D : Addr} {m : Str → Option Value} {tail : List (Addr × Obj)} {vs : List Value} {n k : Nat} {i : Int} {t : Tok} {v : Value} {Q : Unit → Shared → Prop}
    (F : Fr h₀ L s.heap m) (N : News h₀ L s.heap ((D, listOf vs.toArray n) :: tail)) (hD : ∀ p ∈ tail, p.1 ≠ D) (e : i = (k : Int)) (h1 : k < vs.length) (hfit : vs.length ≤ 1000)
    (h : ∀ h', Fr h₀ L h' m → News h₀ L h' ((D, listOf (vs.set k v).toArray n) :: tail) → Q () { s with heap := h' }) : wpAny (model prog w) A (setItem (.ref D) (.int i t) v) Q E s := by
  subst e
  have z := N _ (.head _)
  refine ki_setAt z.1 (by (exact Int.natCast_nonneg _)) (by (exact Ar.cl (n := 9223372036854775808) (Ar.go [_, _] [(.P (.V 0) (.N 1), .V 1, 1), (.V 1, .N 1000, 1)] 1 (.P (.V 0) (.N 1)) (.N 9223372036854775808) rfl h1 hfit) (by rfl))) (by simp; (exact Ar.go [_, _] [(.P (.V 0) (.N 1), .V 1, 1)] 1 (.P (.V 0) (.N 1)) (.V 1) rfl h1)) (h _ (F.change (Heap.SameBut.update ..) z.2.1 z.2.2) (ki_turn (pre := []) _ N (fun _ h => nomatch h) hD ?_ ?_))
  · show vs.toArray.setIfInBounds (k : Int).toNat v = (vs.set k v).toArray
    apply Array.toList_inj.mp
    simp
  · simp

set_option maxHeartbeats 4000000

noncomputable def RowsIn (led : List (Addr × Obj)) (vs : List Value) (rs : List (List Str)) : Prop := vs.length = rs.length ∧ ∀ (i : Nat) (r : List Str), rs[i]? = some r → ∃ (a : Addr) (us : List Value) (k : Nat), vs[i]? = some (Value.ref a) ∧ (a, listOf us.toArray k) ∈ led ∧ StrsAre us r
theorem RowsIn.row {led : List (Addr × Obj)} {vs : List Value} {rs : List (List Str)} {C : Prop} (h : RowsIn led vs rs) {i : Nat} {r : List Str} (hr : rs[i]? = some r) (k : ∀ (a : Addr) (us : List Value) (n : Nat), vs[i]? = some (Value.ref a) → (a, listOf us.toArray n) ∈ led → StrsAre us r → C) : C :=
  (h.2 i r hr).elim fun a h => h.elim fun us h => h.elim fun n h => k a us n h.1 h.2.1 h.2.2
theorem row_get {α : Type} {C : Prop} {l : List α} {i : Nat} (h : i < l.length) (k : ∀ r, l[i]? = some r → C) : C := k _ (List.getElem?_eq_getElem h)
theorem app_ne {l own : List (Addr × Obj)} {D : Addr} (h1 : ∀ p ∈ l, p.1 ≠ D) (h2 : ∀ p ∈ own, p.1 ≠ D) : ∀ p ∈ l ++ own, p.1 ≠ D := fun p hp => (List.mem_append.mp hp).elim (h1 p) (h2 p)
theorem RowsIn.mono {l l' : List (Addr × Obj)} {vs : List Value} {rs : List (List Str)} (h : RowsIn l vs rs) (hs : ∀ p ∈ l, p ∈ l') : RowsIn l' vs rs := ⟨h.1, fun i r hr => by
  refine h.row hr fun a us k h1 h2 h3 => ?_
  exact ⟨a, us, k, h1, hs _ h2, h3⟩⟩
theorem ordered_spec (R : Addr) (vs : List Value) (rs : List (List Str)) (n : Nat) (led : List (Addr × Obj)) (hR : (R, listOf vs.toArray n) ∈ led) (hrows : RowsIn led vs rs) (hz : vs.length ≤ 9) (hz2 : ∀ r ∈ rs, r.length ≤ 4) :
  Spec p loose w mean mg mb 212 20 200 [.ref R] led (fun P => ∀ a ws k, OrdAre ws (ordAt rs rs.length) → P (.ref a) [(a, listOf ws.toArray k)]) := by
  unfold Spec; k_fill
  intro dp un gd cn cs a ccd cl outer A₀ base h₀ L m news s Q E B F X N T hk hneed hd hu hret
  refine wpAny_call ?_
  (refine' code_defC ?k1 ?k2 ?k3 ?k4 ?k5 ?kA ?kF ?kK ?k6 ?k7 ?k8 ?k9 ?kB ?kD ?_ ?c2 ?c3 ?c4; (case kA | kF => exact rfl); (case kK => assumption); (case k1 | k2 | k3 | k4 | k5 => k_asm); (case k6 | k7 => k_is); (case k8 => ktr_room); (case k9 => first | exact BindsTo.of_eq rfl | exact binds_K (by k_in) rfl (by k_is) rfl rfl rfl); (case kB => exact rfl); (case kD => decide +kernel); (case c2 | c3 | c4 => exact rfl); k_whole; walk_at "mine e2")
  rename_i gX L1 hX tX FGX FX BX XX TX lN oK oR dK dR NX
  change oK.data = Data.cell none at dK
  change oR.data = Data.cell (some (Value.ref R)) at dR
  change Fr gX L1 hX (fun _ => none) at FX
  have hm1 := hneed _ hR
  k_steps
  refine Halt.go ?_
  refine call_len_led (vs := vs) (n := n) (by k_asm) (by (repeat' (first | assumption | exact List.mem_cons_self | refine List.mem_cons_of_mem _ ?_))) (by (exact Ar.go [_] [(.V 0, .N 9, 1)] 1 (.V 0) (.N 1000) rfl hz)) ?_
  k_steps
  refine Halt.go ?_
  rename News _ _ _ _ => N2
  refine KMa.mul (vs := [Value.none]) (ws := List.replicate vs.length Value.none) (by k_asm) N2 (led_list N2 (.head _)) (by (exact Int.le_trans (by decide) (Int.natCast_nonneg _))) (by (exact Ar.cl (n := 9223372036854775808) (Ar.go [_] [(.V 0, .N 9, 1)] 1 (.P (.V 0) (.N 1)) (.N 9223372036854775808) rfl hz) (by rfl))) (by simp; (exact Ar.go [_] [(.V 0, .N 9, 1)] 1 (.V 0) (.N 256) rfl hz)) (by simp) ?_
  intro D h3 F3 N3 l3
  dsimp only
  k_steps
  refine wpAny_ForA ?_
  k_steps
  refine Halt.go ?_
  refine call_len_led (vs := vs) (n := n) (by k_asm) (by (repeat' (first | assumption | exact List.mem_cons_self | refine List.mem_cons_of_mem _ ?_))) (by (exact Ar.go [_] [(.V 0, .N 9, 1)] 1 (.V 0) (.N 1000) rfl hz)) ?_
  k_steps
  refine Halt.go ?_
  rename IsRange _ _ _ _ _ _ _ _ => R5
  rename News _ _ _ _ => N5
  rename Fr _ _ _ _ => F5
  have hsm : Builtin.Range.small 0 (vs.length : Nat) 1 = true := small_one (by (decide)) (by (decide)) (by (exact Int.le_trans (by decide) (Int.natCast_nonneg _))) (by (exact Ar.cl (n := 4611686018427387904) (Ar.go [_] [(.V 0, .N 9, 1)] 1 (.P (.V 0) (.N 1)) (.N 4611686018427387904) rfl hz) (by rfl)))
  have N5' := News.sub (l' := _ :: _ :: _ :: news) N5 (fun p hp => by
    rcases List.mem_cons.mp hp with rfl | hp
    · exact .head _
    · exact .tail _ (.tail _ hp))
  refine rangeC (n := vs.length) (y := Str.ofString "ahead") (fun i o => ∃ ws, o = listOf ws.toArray 0 ∧ OrdAre ws (ordAt rs i)) rfl R5 hsm (by rw [rangeSize_one]; lia) F5 N5' ⟨_, rfl, by rw [hrows.1]; exact ord_nil _⟩ dK ?turn ?done
  case turn =>
    rintro i t6 w6 o6 c6 x6 h6 tk6 own6 hi ⟨ws, rfl, hord⟩ hc6 hoD hok hor F6 N6
    have l4 := l3
    k_lt l4
    have hD7 : ∀ p ∈ news ++ own6, p.1 ≠ D := app_ne (fun p hp => Nat.ne_of_lt (l3 p (.tail _ (.tail _ (.tail _ hp))))) hoD
    have hk7 : ∀ p ∈ news ++ own6, p.1 ≠ L1 + 1 + 1 := app_ne (fun p hp => Nat.ne_of_lt (Nat.lt_succ_of_lt (Nat.lt_succ_of_lt (lN p hp)))) hok
    have hr7 : ∀ p ∈ news ++ own6, p.1 ≠ L1 + 1 := app_ne (fun p hp => Nat.ne_of_lt (Nat.lt_succ_of_lt (lN p hp))) (fun p hp => hor p hp _ (.head _))
    change Fr gX L1 h6 _ at F6
    change News gX L1 h6 _ at N6
    rw [List.cons_append] at N6
    have hR7 : (R, listOf vs.toArray n) ∈ news ++ own6 := List.mem_append_left _ hm1
    have hrow := hrows.mono fun p hp => List.mem_append_left own6 (hneed p hp)
    generalize htl : news ++ own6 = tail at N6 hD7 hk7 hr7 hR7 hrow
    clear hor hoD hok
    (k_steps; repeat (any_goals (refine Halt.go ?_; k_dflt (refine LCt.ListComp_T (F₀ := by k_asm) (by with_unfolding_all rfl) (by decide) (by rfl) (by decide) (by rfl) ?_); k_steps)))
    refine Halt.go ?_
    have hir : i < rs.length := by rw [← hrows.1]; exact hi
    refine row_get hir fun r hr => ?_
    refine hrow.row hr fun ai ui ki hvi hmi hsi => ?_
    have hri : r.length ≤ 4 := hz2 r (List.mem_of_getElem? hr)
    have hli := strs_len hsi
    k_dflt (refine LCt.CompSrcT.ledger (its := vs.toArray) rfl (by k_asm) (by k_asm) (List.mem_cons_of_mem _ (List.mem_cons_of_mem _ (List.mem_cons_of_mem _ hR7))) ?hz ?_)
    case hz => simp [sizeLine]; (exact Ar.go [_] [(.V 0, .N 9, 1)] 1 (.V 0) (.N 16777216) rfl hz)
    intro g9
    refine comp_invT (fun j ys nw => nw = _ ∧ ys.length = ((rs.take j).filter fun q => ltR q r).length) ⟨rfl, by simp⟩ ?turn2 ?fin2
    case turn2 =>
      intro j v I oI C oC D3 m₂ ys nw h tk E' hj hJ hv hC hx9 F9 N9 off ne
      obtain ⟨rfl, hy⟩ := hJ
      have hjr : j < rs.length := by rw [← hrows.1]; simpa using hj
      refine row_get hjr fun q hq => ?_
      refine hrow.row hq fun aj uj kj hvj hmj hsj => ?_
      have hrj : q.length ≤ 4 := hz2 q (List.mem_of_getElem? hq)
      have hlj := strs_len hsj
      obtain rfl : v = Value.ref aj := by
        have : vs[j]? = some v := by simpa using hv
        rw [hvj] at this; exact (Option.some.inj this).symm
      k_steps
      refine Halt.go ?_
      refine rev_led (s := ⟨_, _, _, _, _⟩) F9 N9 (vs := uj) (n := kj) (by (repeat' (first | assumption | exact List.mem_cons_self | refine List.mem_cons_of_mem _ ?_))) (by (exact Ar.go [_, _] [(.V 1, .N 4, 1), (.V 0, .V 1, 1)] 1 (.V 0) (.N 1000) rfl hrj (Nat.le_of_eq hlj))) ?_
      intro D4 h4 l4 F4 N4
      k_steps
      refine Halt.go ?_
      refine item_ledL (vs := vs) (n := n) N4 (by (repeat' (first | assumption | exact List.mem_cons_self | refine List.mem_cons_of_mem _ ?_))) (by lia) (by lia) (v := .ref ai) (by rw [show (0 + (i : Int) * 1).toNat = i by lia]; exact hvi) ?_
      k_steps
      refine Halt.go ?_
      refine rev_led (s := ⟨_, _, _, _, _⟩) F4 N4 (vs := ui) (n := ki) (by (repeat' (first | assumption | exact List.mem_cons_self | refine List.mem_cons_of_mem _ ?_))) (by (exact Ar.go [_, _] [(.V 1, .N 4, 1), (.V 0, .V 1, 1)] 1 (.V 0) (.N 1000) rfl hri (Nat.le_of_eq hli))) ?_
      intro D5 h5 l5 F5 N5
      k_steps
      refine Halt.go ?_
      refine lt_led N5 (l := D4) (b := D5) (vs := uj.reverse) (ws := ui.reverse) (n := 0) (n2 := 0) (List.mem_cons_of_mem _ List.mem_cons_self) List.mem_cons_self (strs_rev hsj) (strs_rev hsi) ?hu ?_
      case hu => ktr_units
      change wpAny _ _ (truthy (Value.bool (ltR q r))) _ _ _
      cases hb : ltR q r with
      | true =>
        k_steps
        refine LCg.CompEnd.intro (by k_asm) (by k_asm) _ (by kcj_all) off (.inr ⟨_, List.mem_cons_of_mem _ (List.mem_cons_of_mem _ (List.mem_cons_of_mem _ hR7)), rfl, _, rfl⟩) ⟨rfl, ?_⟩
        rw [List.take_add_one, hq, Option.toList_some, List.filter_append, List.filter_cons, hb, if_pos rfl, List.length_append, List.length_append, hy]
        rfl
      | false =>
        k_steps
        refine LCg.CompEnd.intro (by k_asm) (by k_asm) _ (by kcj_all) off (.inr ⟨_, List.mem_cons_of_mem _ (List.mem_cons_of_mem _ (List.mem_cons_of_mem _ hR7)), rfl, _, rfl⟩) ⟨rfl, ?_⟩
        rw [List.take_add_one, hq, Option.toList_some, List.filter_append, List.filter_cons, hb, if_neg Bool.false_ne_true, List.length_append, hy]
        rfl
    case fin2 =>
      intro ys nw hJ
      obtain ⟨rfl, hy⟩ := hJ
      rw [show vs.toArray.size = rs.length by simpa using hrows.1, List.take_length] at hy
      k_steps
      refine Halt.go ?_
      rename News _ _ _ _ => N8
      have hyl : ys.length ≤ 9 := by have := List.length_filter_le (fun q => ltR q r) rs; have := hrows.1; (exact Ar.go [_, _, _, _] [(.V 1, .N 9, 1), (.V 0, .V 2, 1), (.V 2, .V 3, 1), (.V 3, .V 1, 1)] 1 (.V 0) (.N 9) rfl hz (Nat.le_of_eq hy) ‹_› (Nat.le_of_eq this.symm))
      refine call_len_led (vs := ys) (n := ys.length) N8 List.mem_cons_self (by (exact Ar.go [_] [(.V 0, .N 9, 1)] 1 (.V 0) (.N 1000) rfl hyl)) ?_
      k_steps
      refine Halt.go ?_
      refine take_led (s := ⟨_, _, _, _, _⟩) (by k_asm) N8 (vs := vs) (n := n) (k := i) (by (repeat' (first | assumption | exact List.mem_cons_self | refine List.mem_cons_of_mem _ ?_))) (by (exact Ar.go [_] [(.V 0, .N 9, 1)] 1 (.V 0) (.N 1000) rfl hz)) (by lia) ?_
      intro D10 h10 l10 F10 N10
      k_steps
      refine Halt.go ?_
      refine kl_method N10 List.mem_cons_self PySem.F.slot_list_count PySem.F.type_list_count ?_
      dsimp only
      k_steps
      refine Halt.go ?_
      refine item_ledL (vs := vs) (n := n) N10 (by (repeat' (first | assumption | exact List.mem_cons_self | refine List.mem_cons_of_mem _ ?_))) (by lia) (by lia) (v := .ref ai) (by rw [show (0 + (i : Int) * 1).toNat = i by lia]; exact hvi) ?_
      k_steps
      refine Halt.go ?_
      have hRA : RowsAt h10 (vs.take i) (rs.take i) := ⟨by rw [List.length_take, List.length_take, hrows.1], fun j q hq => by
        have hji : j < i := by
          rcases Nat.lt_or_ge j i with h | h
          · exact h
          · rw [List.getElem?_eq_none (by rw [List.length_take]; (exact Ar.go [_, _, _] [(.V 2, .V 1, 1), (.V 0, .V 2, 1)] 1 (.V 0) (.V 1) rfl h (Nat.min_le_left _ _)))] at hq; cases hq
        rw [List.getElem?_take_of_lt hji] at hq
        refine hrow.row hq fun aj uj kj h1 h2 h3 => ?_
        exact ⟨aj, by rw [List.getElem?_take_of_lt hji]; exact h1, .led N10 (by (repeat' (first | assumption | exact List.mem_cons_self | refine List.mem_cons_of_mem _ ?_))) h3⟩⟩
      have hbS : IsStrs h10 ai r := ⟨ui, ki, (N10 (ai, listOf ui.toArray ki) (by (repeat' (first | assumption | exact List.mem_cons_self | refine List.mem_cons_of_mem _ ?_)))).1, hsi⟩
      refine count_call (vs := vs.take i) (led_list N10 List.mem_cons_self) hRA hbS ?hu2 ?_
      case hu2 => ktr_units
      intro t11 k11
      k_steps
      refine Halt.go ?_
      rename Obj.data _ = Data.cell (some (Value.int _ _)) => dN
      have N11 := News.sub (l' := (D, listOf ws.toArray 0) :: _ :: _ :: tail) N10 (fun p hp => List.mem_cons_of_mem _ (List.mem_cons_of_mem _ hp))
      have hwl : ws.length = rs.length := by rw [hord.1, ordAt_len]
      have hpl := placeOf_lt hr
      have hrsl := hrows.1
      refine set_led (k := placeOf rs i r) (by k_asm) N11 ?hDD (by unfold placeOf; rw [hy]; push_cast; rfl) (by (exact Ar.go [_, _, _] [(.V 2, .V 1, 1), (.P (.V 0) (.N 1), .V 2, 1)] 1 (.P (.V 0) (.N 1)) (.V 1) rfl (Nat.le_of_eq hwl.symm) hpl)) (by (exact Ar.go [_, _, _] [(.V 1, .N 9, 1), (.V 0, .V 2, 1), (.V 2, .V 1, 1)] 1 (.V 0) (.N 1000) rfl hz (Nat.le_of_eq hwl) (Nat.le_of_eq hrsl.symm))) ?_
      case hDD =>
        intro p hp
        rcases List.mem_cons.mp hp with rfl | hp
        · exact Nat.ne_of_lt l4.2.1
        · rcases List.mem_cons.mp hp with rfl | hp
          · exact Nat.ne_of_lt l4.2.2.1
          · exact hD7 p hp
      intro h12 F12 N12
      k_steps
      subst htl
      refine TurnC.next (by k_asm) N12 ⟨_, rfl, ?_⟩ dN (fun z hz => by simp only [if_neg hz])
      have : ordAt rs (i + 1) = (ordAt rs i).set (placeOf rs i r) (some i) := by rw [ordAt]; simp only [hr]
      rw [this, show (0 + (i : Int) * 1) = ((i : Nat) : Int) by lia]
      exact ord_set hord (by rw [ordAt_len]; exact hpl)
  case done =>
    rintro w6 o6 c6 x6 h6 tk6 ⟨ws, rfl, hord⟩ hc6 F6 N6
    rw [hrows.1] at hord
    change Fr gX L1 h6 _ at F6
    change News gX L1 h6 _ at N6
    k_steps
    exact hret _ _ _ hord _ _ (by k_asm) (cb_drop (by k_asm) (by kcj_all))
end Mine
end
section
open PySem PySem.Calls PySem.W PyProof.Rows
namespace Mine
theorem all_eq' {α : Type} [BEq α] : ∀ (xs ys : List α), xs.length = ys.length → ((List.range xs.length).all fun j => xs[j]? == ys[j]?) = (xs == ys)
  | [], [], _ => rfl
  | x :: xs, y :: ys, h => by
    have h' : xs.length = ys.length := by simpa using h
    rw [List.length_cons, List.range_succ_eq_map, List.all_cons, List.all_map]
    have ih := all_eq' xs ys h'
    have e : ((fun j => (x :: xs)[j]? == (y :: ys)[j]?) ∘ Nat.succ) = fun j => xs[j]? == ys[j]? := by funext j; simp
    rw [e, ih]
    simp [List.cons_beq_cons]
theorem ne_len {α : Type} [BEq α] : ∀ (xs ys : List α), xs.length ≠ ys.length → (xs == ys) = false
  | [], [], h => absurd rfl h
  | [], _ :: _, _ => rfl
  | _ :: _, [], _ => rfl
  | x :: xs, y :: ys, h => by
    rw [List.cons_beq_cons, ne_len xs ys (fun e => h (by simp [e]))]
    simp
section
variable {prog : Program} {w : World} {A : Around} {E : Value → Shared → Prop} {s : Shared} {l b : Addr} {vs ws : List Value} {α : Type} [BEq α] {xs ys : List α} {Q : Value → Shared → Prop}
theorem each_eq (hx : vs.length = xs.length) (hy : ws.length = ys.length) (he : ∀ (j : Nat) (x y : α) (v v' : Value), xs[j]? = some x → ys[j]? = some y → vs[j]? = some v → ws[j]? = some v' → SeqAt.EqAt A.in1 s v v' (x == y)) :
    ∀ j (h1 : j < vs.toArray.size) (h2 : j < ws.toArray.size), SeqAt.EqAt A.in1 s vs.toArray[j] ws.toArray[j] (xs[j]? == ys[j]?) := fun j h1 h2 => by
  have a1 : j < xs.length := by simpa [hx] using h1
  have a2 : j < ys.length := by simpa [hy] using h2
  have b1 : j < vs.length := by simpa using h1
  have b2 : j < ws.length := by simpa using h2
  have e : (xs[j]? == ys[j]?) = (xs[j] == ys[j]) := by rw [List.getElem?_eq_getElem a1, List.getElem?_eq_getElem a2]; rfl
  rw [e]
  exact he j _ _ _ _ (List.getElem?_eq_getElem a1) (List.getElem?_eq_getElem a2) (by simp) (by simp)
theorem rcne_gen (hl : s.heap.IsList l vs.toArray) (hb : s.heap.IsList b ws.toArray) (hx : vs.length = xs.length) (hy : ws.length = ys.length) (hu : A.units < cLine)
    (he : ∀ (j : Nat) (x y : α) (v v' : Value), xs[j]? = some x → ys[j]? = some y → vs[j]? = some v → ws[j]? = some v' → SeqAt.EqAt A.in1 s v v' (x == y)) : SeqAt.RcNeAt A s (.ref l) (.ref b) (!(xs == ys)) := by
  by_cases hsz : xs.length = ys.length
  · have := SeqAt.RcNeAt.lists (A := A) hl hb (by simp [hx, hy, hsz]) hu (each_eq hx hy he)
    rw [List.size_toArray, hx, all_eq' xs ys hsz] at this
    exact this
  · rw [ne_len xs ys hsz]
    exact SeqAt.RcNeAt.lists_lengths (A := A) hl hb (by simp [hx, hy, hsz]) hu
end
section
variable {prog : Program} {w : World} {A : Around} {E : Value → Shared → Prop} {s : Shared} {l b : Addr} {vs ws : List Value} {xs ys : List Str} {Q : Value → Shared → Prop}
theorem strs_val {i : Nat} {x : Str} {v : Value} (h : StrsAre vs xs) (hx : xs[i]? = some x) (hv : vs[i]? = some v) : ∃ t, v = .str x t := by
  obtain ⟨t, ht⟩ := strs_at h i x hx
  rw [ht] at hv
  exact ⟨t, (Option.some.inj hv).symm⟩
theorem strs_each (h1 : StrsAre vs xs) (h2 : StrsAre ws ys) : ∀ (j : Nat) (x y : Str) (v v' : Value), xs[j]? = some x → ys[j]? = some y → vs[j]? = some v → ws[j]? = some v' → SeqAt.EqAt A.in1 s v v' (x == y) := fun j x y v v' e1 e2 e3 e4 => by
  obtain ⟨t, rfl⟩ := strs_val h1 e1 e3
  obtain ⟨u, rfl⟩ := strs_val h2 e2 e4
  exact SeqAt.EqAt.str_str _ _ _ _
theorem isList_of {h : Heap} {n : Nat} (e : h.get? l = some (listOf vs.toArray n)) : h.IsList l vs.toArray := ⟨_, e, rfl, n, rfl⟩
theorem ne_strs (hl : IsStrs s.heap l xs) (hb : IsStrs s.heap b ys) (hu : A.units < cLine) (h : Q (.bool (!(xs == ys))) s) : wpAny (model prog w) A (compareOp .NotEq (.ref l) (.ref b)) Q E s := by
  obtain ⟨vs, n, e1, hx⟩ := hl
  obtain ⟨ws, n2, e2, hy⟩ := hb
  exact rcne_gen (isList_of e1) (isList_of e2) (strs_len hx) (strs_len hy) hu (strs_each hx hy) prog w E Q h
theorem eqStrs_at (hl : IsStrs s.heap l xs) (hb : IsStrs s.heap b ys) (hu : A.units < cLine) : SeqAt.EqAt A s (.ref l) (.ref b) (xs == ys) := fun prog w E Q h => eqBool_strs hl hb hu h
theorem rows_each {rs qs : List (List Str)} (hu : A.in1.units < cLine) (h1 : RowsAt s.heap vs rs) (h2 : RowsAt s.heap ws qs) : ∀ (j : Nat) (x y : List Str) (v v' : Value), rs[j]? = some x → qs[j]? = some y → vs[j]? = some v → ws[j]? = some v' → SeqAt.EqAt A.in1 s v v' (x == y) := fun j x y v v' e1 e2 e3 e4 => by
  obtain ⟨a, h3, h4⟩ := h1.2 j x e1
  obtain ⟨c, h5, h6⟩ := h2.2 j y e2
  rw [h3] at e3; rw [h5] at e4
  obtain rfl := Option.some.inj e3
  obtain rfl := Option.some.inj e4
  exact eqStrs_at h4 h6 hu
theorem ne_rows {rs qs : List (List Str)} (hl : s.heap.IsList l vs.toArray) (hb : s.heap.IsList b ws.toArray) (h1 : RowsAt s.heap vs rs) (h2 : RowsAt s.heap ws qs) (hu : A.units + 1 < cLine) (h : Q (.bool (!(rs == qs))) s) : wpAny (model prog w) A (compareOp .NotEq (.ref l) (.ref b)) Q E s :=
  rcne_gen hl hb h1.1 h2.1 (by (exact Ar.go [_, _] [(.P (.P (.V 0) (.N 1)) (.N 1), .V 1, 1)] 1 (.P (.V 0) (.N 1)) (.V 1) rfl hu)) (rows_each (by show A.units + 1 < cLine; exact hu) h1 h2) prog w E Q h
theorem eq_strs' (hl : IsStrs s.heap l xs) (hb : IsStrs s.heap b ys) (hu : A.units < cLine) (h : Q (.bool (xs == ys)) s) : wpAny (model prog w) A (compareOp .Eq (.ref l) (.ref b)) Q E s := eq_strs hl hb hu h
theorem eq_empty {us : List Value} (hl : s.heap.IsList l us.toArray) (hb : s.heap.IsList b ([] : List Value).toArray) (hu : A.units < cLine) (h : Q (.bool us.isEmpty) s) : wpAny (model prog w) A (compareOp .Eq (.ref l) (.ref b)) Q E s := by
  have key : SeqAt.RcAt A s (.ref l) (.ref b) us.isEmpty := by
    cases us with
    | nil => exact SeqAt.RcAt.lists (e := fun _ => true) hl hb rfl hu (fun j h1 _ => absurd h1 (Nat.not_lt_zero _))
    | cons a r => exact SeqAt.RcAt.lists_lengths hl hb rfl hu
  exact key prog w E Q h
theorem ne_empty {us : List Value} (hl : s.heap.IsList l us.toArray) (hb : s.heap.IsList b ([] : List Value).toArray) (hu : A.units < cLine) (h : Q (.bool (!us.isEmpty)) s) : wpAny (model prog w) A (compareOp .NotEq (.ref l) (.ref b)) Q E s := by
  have key : SeqAt.RcNeAt A s (.ref l) (.ref b) (!us.isEmpty) := by
    cases us with
    | nil => exact SeqAt.RcNeAt.lists (e := fun _ => true) hl hb rfl hu (fun j h1 _ => absurd h1 (Nat.not_lt_zero _))
    | cons a r => exact SeqAt.RcNeAt.lists_lengths hl hb rfl hu
  exact key prog w E Q h
end
section
variable {prog : Program} {w : World} {A : Around} {s : Shared} {env : Env} {E : Value → Shared → Prop}
noncomputable def TurnW (J : Nat → Shared → Prop) (n : Nat) (Q : Flow → Shared → Prop) (f : Flow) (s' : Shared) : Prop := match f with
  | .next | .cont => ∃ m, m < n ∧ J m s'
  | .brk => Q .next s'
  | .ret v => Q (.ret v) s'
theorem TurnW.next {J : Nat → Shared → Prop} {n : Nat} {Q : Flow → Shared → Prop} {s' : Shared} (m : Nat) (hm : m < n) (h : J m s') : TurnW J n Q .next s' := ⟨m, hm, h⟩
theorem wpAny_WhileA {test : Expr} {body : List Stmt} {pos : Pos} {Q : Flow → Shared → Prop} (J : Nat → Shared → Prop) (n : Nat) (h : J n s)
    (turn : ∀ n s, J n s → wpAny (model prog w) A (isTrue test env (eval test env)) (fun b s₂ =>
      if b then wpAny (model prog w) A (execs body env) (TurnW J n Q) NoE' s₂ else Q .next s₂) NoE' s) : wpAny (model prog w) A (exec (.While test body [] pos) env) Q E s := by
  refine wpAny_While (codeAny_whileLoop J (fun n s hJ => wpAny_mono (turn n s hJ) (fun b s₂ h₂ => ?_) fun _ _ e => e.elim) n h)
  cases b with
  | true =>
    rw [if_pos rfl] at h₂ ⊢
    refine wpAny_mono h₂ (fun f s₃ h₃ => ?_) fun _ _ e => e.elim
    cases f <;> exact h₃
  | false =>
    rw [if_neg Bool.false_ne_true] at h₂ ⊢
    exact wpAny_execs_nil h₂
end
end Mine
end
section
open PySem
namespace Mine
noncomputable def agree (rs : List (List Str)) (r0 : List Str) (k : Nat) : Bool := rs.all fun q => q.reverse.take (k + 1) == r0.reverse.take (k + 1)
noncomputable def goShared (rs : List (List Str)) (r0 : List Str) : Nat → Nat → Nat
  | 0, k => k
  | f + 1, k => if agree rs r0 k then goShared rs r0 f (k + 1) else k
noncomputable def sharedOf (rs : List (List Str)) (r0 : List Str) : List Str := r0.reverse.take (goShared rs r0 r0.length 0)
end Mine
end
section
open Mine.h16 Mine.h2 Mine.h3 Mine.h4 Mine.h10 Mine.h11 Mine.h12
open PySem PySem.Spec PySem.Calls PySem.W PyProof.Rows
set_option genInjectivity false
set_option genSizeOf false
namespace Mine
variable {p : Program} {loose : List Str} {w : World} {mean : ExcName → Option Value} {mg mb : Str → Option Value}

inductive ShInv (s : Shared) (gX : Heap) (L1 : Addr) (oR : Obj) (news : List (Addr × Obj)) (rs : List (List Str)) (r0 : List Str) (f : Nat) : Shared → Prop
  | mk (k : Nat) (h : Heap) (tk : Nat) (Dk : Addr) (us : List Value) (nn : Nat) (c : Obj) (hkf : k + f = r0.length) (F : Fr gX L1 h (fun _ => none)) (N : News gX L1 h ((Dk, listOf us.toArray nn) :: (L1 + 1 + 1, c) :: (L1 + 1, oR) :: news)) (dS : c.data = Data.cell (some (Value.ref Dk)))
    (hus : StrsAre us (r0.reverse.take k)) (lD : AllLt Dk ((L1 + 1 + 1, c) :: (L1 + 1, oR) :: news)) (hg : goShared rs r0 f k = goShared rs r0 r0.length 0) : ShInv s gX L1 oR news rs r0 f { s with heap := h, toks := tk }
set_option maxHeartbeats 4000000

theorem shared_spec (R : Addr) (vs : List Value) (rs : List (List Str)) (r0 : List Str) (n : Nat) (led : List (Addr × Obj)) (hR : (R, listOf vs.toArray n) ∈ led) (hrows : RowsIn led vs rs) (hz : vs.length ≤ 9) (hz2 : ∀ r ∈ rs, r.length ≤ 4) (h0 : rs[0]? = some r0) :
  Spec p loose w mean mg mb 217 20 200 [.ref R] led (fun P => ∀ a ws k, StrsAre ws (sharedOf rs r0) → P (.ref a) [(a, listOf ws.toArray k)]) := by
  unfold Spec; k_fill
  intro dp un gd cn cs a ccd cl outer A₀ base h₀ L m news s Q E B F X N T hk hneed hd hu hret
  refine wpAny_call ?_
  (refine' code_defC ?k1 ?k2 ?k3 ?k4 ?k5 ?kA ?kF ?kK ?k6 ?k7 ?k8 ?k9 ?kB ?kD ?_ ?c2 ?c3 ?c4; (case kA | kF => exact rfl); (case kK => assumption); (case k1 | k2 | k3 | k4 | k5 => k_asm); (case k6 | k7 => k_is); (case k8 => ktr_room); (case k9 => first | exact BindsTo.of_eq rfl | exact binds_K (by k_in) rfl (by k_is) rfl rfl rfl); (case kB => exact rfl); (case kD => decide +kernel); (case c2 | c3 | c4 => exact rfl); k_whole; walk_at "mine e2")
  rename_i gX L1 hX tX FGX FX BX XX TX lN oS oR dS dR NX
  change oS.data = Data.cell none at dS
  change oR.data = Data.cell (some (Value.ref R)) at dR
  change Fr gX L1 hX (fun _ => none) at FX
  have hm1 := hneed _ hR
  have hrow := hrows.mono hneed
  have hk7 : ∀ p ∈ news, p.1 ≠ L1 + 1 + 1 := fun p hp => Nat.ne_of_lt (Nat.lt_succ_of_lt (Nat.lt_succ_of_lt (lN p hp)))
  refine hrow.row h0 fun a0 u0 k0 hv0 hm0 hs0 => ?_
  have hr4 : r0.length ≤ 4 := hz2 r0 (List.mem_of_getElem? h0)
  have hl0 := strs_len hs0
  k_steps
  refine Halt.go ?_
  rename Obj.data _ = Data.cell (some (Value.ref _)) => dS1
  rename News _ _ _ _ => N1
  refine wpAny_WhileA (ShInv s gX L1 oR news rs r0) r0.length (.mk 0 _ _ _ [] 0 _ (by (exact Nat.le_antisymm (Ar.go [_] [] 1 (.P (.N 0) (.V 0)) (.V 0) rfl) (Ar.go [_] [] 1 (.V 0) (.P (.N 0) (.V 0)) rfl))) (by k_asm) N1 dS1 .nil ?_ rfl) ?turn
  · rename (_ < _ ∧ _ ∧ _) => l1
    exact l1
  rintro f s' ⟨k, h, tk, Dk, us, nn, c, hkf, F2, N2, dS2, hus, lD, hg⟩
  have hul := strs_len hus
  have hul2 : us.length = k := by rw [hul, List.length_take, List.length_reverse]; (exact Nat.le_antisymm (Ar.go [_, _] [(.V 0, .V 1, 1)] 1 (.V 0) (.V 1) rfl (Nat.min_le_left _ _)) (Ar.go [_, _] [(.V 0, .V 1, 1)] 1 (.V 0) (.V 1) rfl (Nat.le_of_eq (Nat.min_eq_left (Ar.go [_, _, _] [(.P (.V 0) (.V 2), .V 1, 1)] 1 (.V 0) (.V 1) rfl (Nat.le_of_eq hkf))).symm)))
  have lD1 := lD
  simp only [AllLt] at lD1
  (k_steps; repeat (any_goals (refine Halt.go ?_; k_dflt (refine LCt.ListComp_T (F₀ := by k_asm) (by with_unfolding_all rfl) (by decide) (by rfl) (by decide) (by rfl) ?_); k_steps)))
  refine Halt.go ?_
  k_dflt (refine LCt.CompSrcT.ledger (its := vs.toArray) rfl (by k_asm) (by k_asm) (List.mem_cons_of_mem _ (List.mem_cons_of_mem _ (List.mem_cons_of_mem _ hm1))) ?hz ?_)
  case hz => simp [sizeLine]; (exact Ar.go [_] [(.V 0, .N 9, 1)] 1 (.V 0) (.N 16777216) rfl hz)
  intro g9
  refine comp_invT (fun j ys nw => nw = _ ∧ ys.isEmpty = (rs.take j).all fun q => q.reverse.take (k + 1) == r0.reverse.take (k + 1)) ⟨rfl, by simp⟩ ?turn2 ?fin2
  case turn2 =>
    intro j v I oI C oC D3 m₂ ys nw h tk E' hj hJ hv hC hx9 F9 N9 off ne
    obtain ⟨rfl, hy⟩ := hJ
    have hjr : j < rs.length := by rw [← hrows.1]; simpa using hj
    refine row_get hjr fun q hq => ?_
    refine hrow.row hq fun aj uj kj hvj hmj hsj => ?_
    have hrj : q.length ≤ 4 := hz2 q (List.mem_of_getElem? hq)
    have hlj := strs_len hsj
    obtain rfl : v = Value.ref aj := by
      have : vs[j]? = some v := by simpa using hv
      rw [hvj] at this; exact (Option.some.inj this).symm
    k_steps
    refine Halt.go ?_
    refine rev_led (s := ⟨_, _, _, _, _⟩) F9 N9 (vs := uj) (n := kj) (by (repeat' (first | assumption | exact List.mem_cons_self | refine List.mem_cons_of_mem _ ?_))) (by (exact Ar.go [_, _] [(.V 1, .N 4, 1), (.V 0, .V 1, 1)] 1 (.V 0) (.N 1000) rfl hrj (Nat.le_of_eq hlj))) ?_
    intro D4 h4 l4 F4 N4
    k_steps
    refine Halt.go ?_
    refine call_len_led (vs := us) (n := nn) N4 (by (repeat' (first | assumption | exact List.mem_cons_self | refine List.mem_cons_of_mem _ ?_))) (by (exact Ar.go [_, _, _, _] [(.V 1, .N 4, 1), (.P (.V 2) (.V 3), .V 1, 1), (.V 0, .V 2, 1)] 1 (.V 0) (.N 1000) rfl hr4 (Nat.le_of_eq hkf) (Nat.le_of_eq hul2))) ?_
    k_steps
    refine Halt.go ?_
    refine take_led (s := ⟨_, _, _, _, _⟩) F4 N4 (vs := uj.reverse) (n := 0) (k := k + 1) List.mem_cons_self (by simp; (exact Ar.go [_, _] [(.V 1, .N 4, 1), (.V 0, .V 1, 1)] 1 (.V 0) (.N 1000) rfl hrj (Nat.le_of_eq hlj))) (by push_cast; lia) ?_
    intro D5 h5 l5 F5 N5
    k_steps
    refine Halt.go ?_
    refine item_ledL (vs := vs) (n := n) N5 (by (repeat' (first | assumption | exact List.mem_cons_self | refine List.mem_cons_of_mem _ ?_))) (by decide) (by decide) (v := .ref a0) hv0 ?_
    k_steps
    refine Halt.go ?_
    refine rev_led (s := ⟨_, _, _, _, _⟩) F5 N5 (vs := u0) (n := k0) (by (repeat' (first | assumption | exact List.mem_cons_self | refine List.mem_cons_of_mem _ ?_))) (by (exact Ar.go [_, _] [(.V 1, .N 4, 1), (.V 0, .V 1, 1)] 1 (.V 0) (.N 1000) rfl hr4 (Nat.le_of_eq hl0))) ?_
    intro D6 h6 l6 F6 N6
    k_steps
    refine Halt.go ?_
    refine call_len_led (vs := us) (n := nn) N6 (by (repeat' (first | assumption | exact List.mem_cons_self | refine List.mem_cons_of_mem _ ?_))) (by (exact Ar.go [_, _, _, _] [(.V 1, .N 4, 1), (.P (.V 2) (.V 3), .V 1, 1), (.V 0, .V 2, 1)] 1 (.V 0) (.N 1000) rfl hr4 (Nat.le_of_eq hkf) (Nat.le_of_eq hul2))) ?_
    k_steps
    refine Halt.go ?_
    refine take_led (s := ⟨_, _, _, _, _⟩) F6 N6 (vs := u0.reverse) (n := 0) (k := k + 1) List.mem_cons_self (by simp; (exact Ar.go [_, _] [(.V 1, .N 4, 1), (.V 0, .V 1, 1)] 1 (.V 0) (.N 1000) rfl hr4 (Nat.le_of_eq hl0))) (by push_cast; lia) ?_
    intro D7 h7 l7 F7 N7
    k_steps
    refine Halt.go ?_
    have i5 : IsStrs h7 D5 (q.reverse.take (k + 1)) := ⟨uj.reverse.take (k + 1), 0, (N7 (D5, listOf (uj.reverse.take (k + 1)).toArray 0) (by (repeat' (first | assumption | exact List.mem_cons_self | refine List.mem_cons_of_mem _ ?_)))).1, strs_take (strs_rev hsj) _⟩
    have i7 : IsStrs h7 D7 (r0.reverse.take (k + 1)) := ⟨u0.reverse.take (k + 1), 0, (N7 (D7, listOf (u0.reverse.take (k + 1)).toArray 0) List.mem_cons_self).1, strs_take (strs_rev hs0) _⟩
    refine ne_strs i5 i7 ?hu ?_
    case hu => ktr_units
    cases hb : (q.reverse.take (k + 1) == r0.reverse.take (k + 1)) with
    | true =>
      k_steps
      refine LCg.CompEnd.intro (by k_asm) (by k_asm) _ (by kcj_all) off (.inr ⟨_, List.mem_cons_of_mem _ (List.mem_cons_of_mem _ (List.mem_cons_of_mem _ hm1)), rfl, _, rfl⟩) ⟨rfl, ?_⟩
      rw [List.take_add_one, hq, Option.toList_some, List.all_append, List.all_cons, hb, List.all_nil, hy]
      simp
    | false =>
      k_steps
      refine LCg.CompEnd.intro (by k_asm) (by k_asm) _ (by kcj_all) off (.inr ⟨_, List.mem_cons_of_mem _ (List.mem_cons_of_mem _ (List.mem_cons_of_mem _ hm1)), rfl, _, rfl⟩) ⟨rfl, ?_⟩
      rw [List.take_add_one, hq, Option.toList_some, List.all_append, List.all_cons, hb]
      simp
  case fin2 =>
    intro ys nw hJ
    obtain ⟨rfl, hy⟩ := hJ
    rw [show vs.toArray.size = rs.length by simpa using hrows.1, List.take_length] at hy
    change ys.isEmpty = agree rs r0 k at hy
    k_steps
    refine Halt.go ?_
    rename News _ _ _ _ => N8
    refine eq_empty (us := ys) (led_list N8 (n := ys.length) (by (repeat' (first | assumption | exact List.mem_cons_self | refine List.mem_cons_of_mem _ ?_)))) (led_list N8 List.mem_cons_self) ?hu3 ?_
    case hu3 => ktr_units
    rw [hy]
    cases hag : agree rs r0 k with
    | false =>
      k_steps
      have hG : sharedOf rs r0 = r0.reverse.take k := by
        unfold sharedOf
        rw [← hg]
        cases f with
        | zero => rfl
        | succ f => rw [goShared, hag, if_neg Bool.false_ne_true]
      exact hret _ us _ (by rw [hG]; exact hus) _ _ (by k_asm) (cb_drop (by k_asm) (by kcj_all))
    | true =>
      k_steps
      refine Halt.go ?_
      refine call_len_led (vs := us) (n := nn) N8 (by (repeat' (first | assumption | exact List.mem_cons_self | refine List.mem_cons_of_mem _ ?_))) (by (exact Ar.go [_, _, _, _] [(.V 1, .N 4, 1), (.P (.V 2) (.V 3), .V 1, 1), (.V 0, .V 2, 1)] 1 (.V 0) (.N 1000) rfl hr4 (Nat.le_of_eq hkf) (Nat.le_of_eq hul2))) ?_
      k_steps
      refine Halt.go ?_
      refine item_ledL (vs := vs) (n := n) N8 (by (repeat' (first | assumption | exact List.mem_cons_self | refine List.mem_cons_of_mem _ ?_))) (by decide) (by decide) (v := .ref a0) hv0 ?_
      k_steps
      refine Halt.go ?_
      refine call_len_led (vs := u0) (n := k0) N8 (by (repeat' (first | assumption | exact List.mem_cons_self | refine List.mem_cons_of_mem _ ?_))) (by (exact Ar.go [_, _] [(.V 1, .N 4, 1), (.V 0, .V 1, 1)] 1 (.V 0) (.N 1000) rfl hr4 (Nat.le_of_eq hl0))) ?_
      k_steps
      · refine Halt.go ?_
        refine item_ledL (vs := vs) (n := n) N8 (by (repeat' (first | assumption | exact List.mem_cons_self | refine List.mem_cons_of_mem _ ?_))) (by decide) (by decide) (v := .ref a0) hv0 ?_
        k_steps
        refine Halt.go ?_
        refine rev_led (s := ⟨_, _, _, _, _⟩) (by k_asm) N8 (vs := u0) (n := k0) (by (repeat' (first | assumption | exact List.mem_cons_self | refine List.mem_cons_of_mem _ ?_))) (by (exact Ar.go [_, _] [(.V 1, .N 4, 1), (.V 0, .V 1, 1)] 1 (.V 0) (.N 1000) rfl hr4 (Nat.le_of_eq hl0))) ?_
        intro D10 h10 l10 F10 N10
        k_steps
        refine Halt.go ?_
        refine call_len_led (vs := us) (n := nn) N10 (by (repeat' (first | assumption | exact List.mem_cons_self | refine List.mem_cons_of_mem _ ?_))) (by (exact Ar.go [_, _, _, _] [(.V 1, .N 4, 1), (.P (.V 2) (.V 3), .V 1, 1), (.V 0, .V 2, 1)] 1 (.V 0) (.N 1000) rfl hr4 (Nat.le_of_eq hkf) (Nat.le_of_eq hul2))) ?_
        k_steps
        refine Halt.go ?_
        refine take_led (s := ⟨_, _, _, _, _⟩) F10 N10 (vs := u0.reverse) (n := 0) (k := k + 1) List.mem_cons_self (by simp; (exact Ar.go [_, _] [(.V 1, .N 4, 1), (.V 0, .V 1, 1)] 1 (.V 0) (.N 1000) rfl hr4 (Nat.le_of_eq hl0))) (by push_cast; lia) ?_
        intro D11 h11 l11 F11 N11
        have N12 := News.sub (l' := (D11, listOf (u0.reverse.take (k + 1)).toArray 0) :: (L1 + 1 + 1, c) :: (L1 + 1, oR) :: news) N11 (fun p hp => by
          rcases List.mem_cons.mp hp with rfl | hp
          · exact .head _
          · (repeat' (first | assumption | exact List.mem_cons_self | refine List.mem_cons_of_mem _ ?_)))
        have l12 : AllLt D11 ((L1 + 1 + 1, c) :: (L1 + 1, oR) :: news) := allLt_of fun p hp => l11 p (by (repeat' (first | assumption | exact List.mem_cons_self | refine List.mem_cons_of_mem _ ?_)))
        have l13 := l12
        simp only [AllLt] at l13
        clear N11 N10 N8
        k_steps
        rename Obj.data _ = Data.cell (some (Value.ref _)) => dS3
        refine TurnW.next (f - 1) (by lia) (.mk (k + 1) _ _ D11 _ 0 _ (by lia) (by k_asm) (by k_asm) dS3 (strs_take (strs_rev hs0) _) l12 ?_)
        obtain ⟨f', rfl⟩ : ∃ f', f = f' + 1 := ⟨f - 1, by lia⟩
        rw [← hg, goShared, hag, if_pos rfl]
        rfl
      · have hG : sharedOf rs r0 = r0.reverse.take k := by
          unfold sharedOf
          rw [← hg]
          obtain rfl : f = 0 := by lia
          rfl
        exact hret _ us _ (by rw [hG]; exact hus) _ _ (by k_asm) (cb_drop (by k_asm) (by kcj_all))
end Mine
end
section
open PySem PySem.Calls PySem.W PyProof.Rows
namespace Mine
theorem map_mro : mroOf (.type "map") = pure [.type "map", .type "object"] := by rw [mroOf_type]; kernel_rfl
theorem map_lookup_new : typeLookup (.type "map") "__new__" = pure (some (.builtin "map.__new__")) := by rw [typeLookup_type, builtinLookup_eq_fast]; kernel_rfl
theorem map_slot_init : Slot "map" "__init__" "object.__init__" :=
  .of (owner := "object") (n := "__init__") (by rw [typeLookup_type, builtinLookup_eq_fast]; kernel_rfl) (by decide +kernel) (by decide +kernel) (by decide +kernel)
    (by first | exact .inl (by decide +kernel) | exact .inr (by decide +kernel)) (by rw [isSubtype_type]; kernel_rfl)
theorem map_called : TypeCalled "map" "map.__new__" "object.__init__" :=
  ⟨by decide +kernel, by decide +kernel, ⟨_, _, map_mro⟩, madeBy_type map_mro map_lookup_new (by decide +kernel), by decide +kernel, by rw [isSubtype_type]; kernel_rfl, map_slot_init⟩
theorem map_typeCall (a b : Value) : checkTypeCall "map" ⟨[a, b], []⟩ = pure () := by kernel_rfl
theorem map_newCall (a b : Value) : checkBuiltinCall "map.__new__" ⟨[.type "map", a, b], []⟩ = pure () := by kernel_rfl
theorem map_entry_new : entryFor table "map.__new__" = some Builtin.«map.__new__» := entryFor_of_tree (by kernel_rfl)
theorem map_sub : isSubtype (.type "map") (.type "map") = pure true := by rw [isSubtype_type]; kernel_rfl
theorem map_slot_next : Slot "map" "__next__" "map.__next__" :=
  .of (owner := "map") (n := "__next__") (by rw [typeLookup_type, builtinLookup_eq_fast]; kernel_rfl) (by decide +kernel) (by decide +kernel) (by decide +kernel)
    (by first | exact .inl (by decide +kernel) | exact .inr (by decide +kernel)) (by rw [isSubtype_type]; kernel_rfl)
theorem map_slot_iter : Slot "map" "__iter__" "map.__iter__" :=
  .of (owner := "map") (n := "__iter__") (by rw [typeLookup_type, builtinLookup_eq_fast]; kernel_rfl) (by decide +kernel) (by decide +kernel) (by decide +kernel)
    (by first | exact .inl (by decide +kernel) | exact .inr (by decide +kernel)) (by rw [isSubtype_type]; kernel_rfl)
theorem map_entry_next : entryFor table "map.__next__" = some Builtin.«map.__next__» := entryFor_of_tree (by kernel_rfl)
theorem map_entry_iter : entryFor table "map.__iter__" = some Builtin.«dict_keyiterator.__iter__» :=
  entryFor_alias (id' := "dict_keyiterator.__iter__") (by kernel_rfl) (by first | rfl | decide +kernel | (unfold String.splitOn; simp +decide [String.splitOnAux])) (by decide +kernel) (by kernel_rfl)
theorem map_no_len : typeLookup (.type "map") "__len__" = pure none := by rw [typeLookup_type, builtinLookup_eq_fast]; kernel_rfl
theorem map_no_hint : typeLookup (.type "map") "__length_hint__" = pure none := by rw [typeLookup_type, builtinLookup_eq_fast]; kernel_rfl
theorem map_args_next (a : Value) : argsOk "map.__next__" ⟨[a], []⟩ := by unfold argsOk; kernel_rfl
theorem map_args_iter (a : Value) : argsOk "map.__iter__" ⟨[a], []⟩ := by unfold argsOk; kernel_rfl
end Mine
end
section
open PySem PySem.Calls PySem.W PyProof.Rows
namespace Mine
noncomputable abbrev mapIt (l : Addr) : Obj := { cls := .type "list_iterator", data := .fields #[.ref l, .int 0 0] }
noncomputable abbrev mapTup (I : Addr) : Obj := { cls := .type "tuple", data := .seq [Value.ref I].toArray }
noncomputable abbrev mapObj (T : Addr) (f : Value) : Obj := { cls := .type "map", data := .fields #[.ref T, f] }
noncomputable abbrev mapHeap (h : Heap) (l : Addr) (f : Value) : Heap := ((h.push (mapIt l)).push (mapTup h.objs.size)).push (mapObj (h.objs.size + 1) f)
theorem meets_map_new (f : Value) (l : Addr) (items : Array Value) :
    Meets (Builtin.«map.__new__» ⟨[.type "map", f, .ref l], []⟩) (fun _ R s => s.heap.IsList l items ∧ R (.ok (.ret (.ref (s.heap.objs.size + 2)))) { s with heap := mapHeap s.heap l f }) :=
  .of_wp fun prog w A R s h => by
    obtain ⟨hp, g, d, tk, os⟩ := s; obtain ⟨hL, h⟩ := h
    have hsub := map_sub
    wp_walk using wpAny_pyIter_list hL
    refine ⟨_, rfl, ?_⟩
    have e1 : (Shared.heap ⟨hp, g, d, tk, os⟩).objs.size + 2 = (((Shared.heap ⟨hp, g, d, tk, os⟩).push (mapIt l)).push (mapTup (Shared.heap ⟨hp, g, d, tk, os⟩).objs.size)).objs.size := by rw [Heap.size_push, Heap.size_push]
    rw [e1] at h
    have e2 : (Shared.heap ⟨hp, g, d, tk, os⟩).objs.size + 1 = ((Shared.heap ⟨hp, g, d, tk, os⟩).push (mapIt l)).objs.size := by rw [Heap.size_push]
    unfold mapHeap at h
    rw [e2] at h
    exact h
section
variable {prog : Program} {w : World} {A : Around} {E : Value → Shared → Prop} {s : Shared} {h₀ : Heap} {L l : Addr} {m : Str → Option Value} {news : List (Addr × Obj)} {vs : List Value} {n : Nat} {Q : Value → Shared → Prop}
theorem map_led {f : Value} (F : Fr h₀ L s.heap m) (N : News h₀ L s.heap news) (hl : (l, listOf vs.toArray n) ∈ news)
    (h : ∀ I T M h', (∀ p ∈ news, p.1 < I) → I < T → T < M → Fr h₀ L h' m → News h₀ L h' ((M, mapObj T f) :: (T, mapTup I) :: (I, mapIt l) :: news) → Q (.ref M) { s with heap := h' }) :
    wpAny (model prog w) A (call (.type "map") [f, .ref l]) Q E s := by
  have hL := led_list N hl
  refine callType_new map_called (by decide) (map_typeCall _ _) (map_newCall _ _) (fun obj => PySem.F.args_object_init_3 obj _ _) map_entry_new (meets_map_new f l vs.toArray) ⟨hL, ?_⟩
  have N1 := News.push F N (mapIt l) rfl
  have F1 := F.push (mapIt l)
  have N2 := News.push F1 N1 (mapTup s.heap.objs.size) rfl
  have F2 := F1.push (mapTup s.heap.objs.size)
  have N3 := News.push F2 N2 (mapObj (s.heap.objs.size + 1) f) rfl
  have F3 := F2.push (mapObj (s.heap.objs.size + 1) f)
  rw [show ((s.heap.push (mapIt l)).push (mapTup s.heap.objs.size)).objs.size = s.heap.objs.size + 2 by rw [Heap.size_push, Heap.size_push], show (s.heap.push (mapIt l)).objs.size = s.heap.objs.size + 1 by rw [Heap.size_push]] at N3
  refine ⟨⟨_, (N3 _ (.head _)).1, rfl⟩, h _ _ _ _ (fun p hp => Heap.lt_size (N p hp).1) (Nat.lt_succ_self _) (Nat.lt_succ_self _) F3 N3⟩
end
end Mine
end
section
open PySem PySem.Calls PySem.W PyProof.Rows
namespace Mine
section
variable {prog : Program} {w : World} {A : Around} {E : Value → Shared → Prop} {s : Shared} {h₀ : Heap} {L l M T I : Addr} {m : Str → Option Value} {rest : List (Addr × Obj)} {vs : List Value} {n i : Nat} {f : Value} {o : Obj} {v : Value} {Q : Option Value → Shared → Prop}
theorem map_next_item (F : Fr h₀ L s.heap m) (N : News h₀ L s.heap ((M, mapObj T f) :: (T, mapTup I) :: (I, o) :: rest)) (hM : M ≠ I) (hT : T ≠ I) (hI : ∀ p ∈ rest, p.1 ≠ I) (ho : IterO l i o) (hl : (l, listOf vs.toArray n) ∈ rest) (hv : vs[i]? = some v)
    (hcall : ∀ h1 o' Q' E', IterO l (i + 1) o' → Fr h₀ L h1 m → News h₀ L h1 ((M, mapObj T f) :: (T, mapTup I) :: (I, o') :: rest) → (∀ r h2 tk2, Fr h₀ L h2 m → News h₀ L h2 ((M, mapObj T f) :: (T, mapTup I) :: (I, o') :: rest) → Q (some r) { s with heap := h2, toks := tk2 } → Q' r { s with heap := h2, toks := tk2 }) →
      wpAny (model prog w) A.in1 (call f [v]) Q' E' { s with heap := h1 }) :
    wpAny (model prog w) A (pyNext (.ref M)) Q E s := by
  have hTM : s.TypeIs (.ref M) "map" := ⟨_, (N _ (.head _)).1, rfl⟩
  have hM0 := (N _ (.head _)).1
  have hT0 := (N _ (.tail _ (.head _))).1
  have hI0 := N _ (.tail _ (.tail _ (.head _)))
  have hL0 := led_list (fun p hp => N p (.tail _ (.tail _ (.tail _ hp)))) hl
  unfold pyNext
  refine wpAny_bind (wpAny_attempt ?_)
  refine wpAny_callSpecial?_slot (name := Str.ofString "__next__") hTM map_slot_next (wpAny_call_entry map_slot_next hTM map_entry_next ?_ (map_args_next _))
  show wpAny _ _ (field (.ref M) 0 >>= _) _ _ s
  refine wpAny_bind (wpAny_field hM0 rfl (x := .ref T) rfl ?_)
  show wpAny _ _ (seqItems? (.ref T) >>= _) _ _ s
  refine wpAny_bind (wpAny_seqItems hT0 rfl ?_)
  (try dsimp only)
  rw [List.forIn_toArray, List.forIn_cons]
  refine wpAny_bind (wpAny_bind (wpAny_bind (wpAny_holding (wpAny_nextOf_list_item (x := v) ⟨o, hI0.1, ho⟩ hL0 (by simpa using hv) fun h1 hit hs => ?_))))
  obtain ⟨o1, ho1, hO1⟩ := hit
  have F1 : Fr h₀ L h1 m := F.change hs hI0.2.1 hI0.2.2
  have N1 : News h₀ L h1 ((M, mapObj T f) :: (T, mapTup I) :: (I, o1) :: rest) := fun p hp => by
    rcases List.mem_cons.mp hp with rfl | hp
    · exact ⟨(hs.2 _ hM).trans (N _ (.head _)).1, (N _ (.head _)).2⟩
    · rcases List.mem_cons.mp hp with rfl | hp
      · exact ⟨(hs.2 _ hT).trans (N _ (.tail _ (.head _))).1, (N _ (.tail _ (.head _))).2⟩
      · rcases List.mem_cons.mp hp with rfl | hp
        · exact ⟨ho1, hI0.2⟩
        · have := N p (.tail _ (.tail _ (.tail _ hp)))
          exact ⟨(hs.2 _ (hI p hp)).trans this.1, this.2⟩
  refine wpAny_pure ?_
  (try dsimp only)
  rw [List.forIn_nil]
  refine wpAny_pure ?_
  (try dsimp only)
  refine wpAny_bind (wpAny_field (N1 _ (.head _)).1 rfl (x := f) rfl ?_)
  refine wpAny_bind (wpAny_holding (hcall h1 o1 _ _ hO1 F1 N1 fun r h2 tk2 F2 N2 hq => ?_))
  refine wpAny_bind (wpAny_letGo ?_)
  exact wpAny_pure ⟨r, rfl, wpAny_pure hq⟩
theorem map_next_end (hh : A.handled = none) (F : Fr h₀ L s.heap m) (N : News h₀ L s.heap ((M, mapObj T f) :: (T, mapTup I) :: (I, o) :: rest)) (hM : M ≠ I) (hT : T ≠ I) (hI : ∀ p ∈ rest, p.1 ≠ I) (ho : IterO l i o) (hl : (l, listOf vs.toArray n) ∈ rest) (hv : vs.length ≤ i)
    (h : ∀ h2, Fr h₀ L h2 m → News h₀ L h2 rest → Q none { s with heap := h2 }) : wpAny (model prog w) A (pyNext (.ref M)) Q E s := by
  have hTM : s.TypeIs (.ref M) "map" := ⟨_, (N _ (.head _)).1, rfl⟩
  have hM0 := (N _ (.head _)).1
  have hT0 := (N _ (.tail _ (.head _))).1
  have hI0 := N _ (.tail _ (.tail _ (.head _)))
  have hL0 := led_list (fun p hp => N p (.tail _ (.tail _ (.tail _ hp)))) hl
  unfold pyNext
  refine wpAny_bind (wpAny_attempt ?_)
  refine wpAny_callSpecial?_slot (name := Str.ofString "__next__") hTM map_slot_next (wpAny_call_entry map_slot_next hTM map_entry_next ?_ (map_args_next _))
  show wpAny _ _ (field (.ref M) 0 >>= _) _ _ s
  refine wpAny_bind (wpAny_field hM0 rfl (x := .ref T) rfl ?_)
  show wpAny _ _ (seqItems? (.ref T) >>= _) _ _ s
  refine wpAny_bind (wpAny_seqItems hT0 rfl ?_)
  (try dsimp only)
  rw [List.forIn_toArray, List.forIn_cons]
  refine wpAny_bind (wpAny_bind (wpAny_bind (wpAny_holding (wpAny_nextOf_list_end (by exact hh) ⟨o, hI0.1, ho⟩ hL0 (by simpa using hv) fun h1 e he ⟨oe, hoe, hce⟩ => ?_))))
  refine wpAny_bind (wpAny_isInstance ⟨oe, hoe, hce⟩ (b := true) (by rw [isSubtype_type]; kernel_rfl) ?_)
  rw [if_pos rfl]
  refine wpAny_pure (h h1 ?_ fun p hp => ?_)
  · obtain ⟨oL, es, ep, hLL, r⟩ := F.ns
    exact ⟨⟨oL, es, ep, he _ _ (Ne.symm hI0.2.1) hLL, r⟩, fun b o e' => he b o (fun q => by rw [q, hI0.2.2] at e'; cases e') (F.keep b o e'), F.above⟩
  · have := N p (.tail _ (.tail _ (.tail _ hp)))
    exact ⟨he _ _ (hI p hp) this.1, this.2⟩
end
end Mine
end
section
open PySem PySem.Calls PySem.W PyProof.Rows
namespace Mine
section
variable {prog : Program} {w : World} {A : Around} {E : Value → Shared → Prop} {s : Shared} {h₀ : Heap} {L l M T I : Addr} {m : Str → Option Value} {rest : List (Addr × Obj)} {vs : List Value} {n : Nat} {f : Value}
noncomputable def IdCall (prog : Program) (w : World) (A : Around) (h₀ : Heap) (L : Addr) (m : Str → Option Value) (vs : List Value) (f : Value) (s : Shared) : Prop :=
  ∀ (v : Value) (h1 : Heap) (tk1 : Nat) (led : List (Addr × Obj)) (Q' E' : Value → Shared → Prop), v ∈ vs → Fr h₀ L h1 m → News h₀ L h1 led → (∀ h2 tk2, Fr h₀ L h2 m → News h₀ L h2 led → Q' v { s with heap := h2, toks := tk2 }) →
    wpAny (model prog w) A (call f [v]) Q' E' { s with heap := h1, toks := tk1 }
theorem extend_map {R : Result → Shared → Prop} {S : Addr} {res : Value} (hh : A.handled = none) (hid : IdCall prog w A.in1.in1 h₀ L m vs f s) (hM : M ≠ I) (hT : T ≠ I) (hI : ∀ p ∈ rest, p.1 ≠ I) (hS : S ≠ M) (hS2 : S ≠ T) (hS3 : S ≠ I) (hSr : ∀ p ∈ rest, p.1 ≠ S) (hz : vs.length ≤ 1000) (hl : (l, listOf vs.toArray n) ∈ rest)
    (done : ∀ h tk c, Fr h₀ L h m → News h₀ L h ((S, listOf vs.toArray c) :: rest) → R (.ok (.ret res)) { s with heap := h, toks := tk }) :
    ∀ (k i : Nat) (h : Heap) (tk c : Nat) (o : Obj), vs.length - i = k → i ≤ vs.length → Fr h₀ L h m → News h₀ L h ((M, mapObj T f) :: (T, mapTup I) :: (I, o) :: (S, listOf (vs.take i).toArray c) :: rest) → IterO l i o →
      codeAny (model prog w) A (.builtin "list.extend.loop" ⟨[.ref S, .ref M, res], []⟩) R { s with heap := h, toks := tk } := by
  have off : ∀ (c i : Nat), ∀ p ∈ (S, listOf (vs.take i).toArray c) :: rest, p.1 ≠ I := fun c i p hp => by
    rcases List.mem_cons.mp hp with rfl | hp
    · exact hS3
    · exact hI p hp
  intro k
  induction k with
  | zero =>
    intro i h tk c o hk hi F N ho
    obtain rfl : i = vs.length := by (exact Nat.le_antisymm (Ar.go [_, _] [(.V 0, .V 1, 1)] 1 (.V 0) (.V 1) rfl hi) (Ar.go [_, _, _] [(.V 2, .N 0, 1), (.V 0, .P (.V 2) (.V 1), 1)] 1 (.V 0) (.V 1) rfl (Nat.le_of_eq hk) (Ar.up _ _)))
    refine codeAny_builtin PySem.F.entry_extend_loop ?_
    rw [Around.under_plainId PySem.F.plain_extend_loop _]
    show wpAny _ A.in1 (pyNext (.ref M) >>= _) _ _ _
    refine wpAny_bind (map_next_end (s := { s with heap := h, toks := tk }) hh F N hM hT (off _ _) ho (.tail _ hl) (Nat.le_refl _) fun h2 F2 N2 => ?_)
    rw [List.take_length] at N2
    exact wpAny_pure (done h2 tk c F2 N2)
  | succ k ih =>
    intro i h tk c o hk hi F N ho
    have hlt : i < vs.length := by (exact Ar.go [_, _, _, _] [(.P (.V 2) (.N 1), .V 3, 1), (.P (.V 3) (.V 0), .V 1, 1)] 1 (.P (.V 0) (.N 1)) (.V 1) rfl (Nat.le_of_eq hk.symm) (Ar.dn (Ar.go [_, _] [(.V 0, .V 1, 1)] 1 (.V 0) (.V 1) rfl hi)))
    have hv : vs[i]? = some vs[i] := List.getElem?_eq_getElem hlt
    refine codeAny_builtin PySem.F.entry_extend_loop ?_
    rw [Around.under_plainId PySem.F.plain_extend_loop _]
    show wpAny _ A.in1 (pyNext (.ref M) >>= _) _ _ _
    refine wpAny_bind (map_next_item (s := { s with heap := h, toks := tk }) F N hM hT (off _ _) ho (.tail _ hl) hv fun h1 o' Q' E' ho' F1 N1 hq => ?_)
    refine hid _ h1 tk _ Q' E' (List.mem_of_getElem? hv) F1 N1 fun h2 tk2 F2 N2 => hq _ h2 tk2 F2 N2 ?_
    show wpAny _ A.in1 (updateSeq S (·.push vs[i]) >>= _) _ _ _
    have hS' := N2 _ (.tail _ (.tail _ (.tail _ (.head _))))
    refine wpAny_bind ?_
    have e : (vs.take i).toArray.push vs[i] = (vs.take (i + 1)).toArray := by
      apply Array.toList_inj.mp
      rw [List.take_add_one, hv]
      simp
    have hc0 : ∃ c2, (h2.update S (Obj.mapSeq (·.push vs[i]))).get? S = some (seqObj "list" ((vs.take i).toArray.push vs[i]) c2) := ⟨_, get?_update_seq hS'.1 fun x => x.push vs[i]⟩
    rw [e] at hc0
    obtain ⟨c2, hc2⟩ := hc0
    have hsb := Heap.SameBut.update h2 S (Obj.mapSeq (·.push vs[i]))
    refine wpAny_updateSeq hS'.1 rfl (wpAny_pure ⟨plainId_quiet PySem.F.plain_extend_loop _, ih (i + 1) _ tk2 c2 o' (by (exact Nat.le_antisymm (Ar.go [_, _, _, _, _] [(.V 2, .P (.V 1) (.N 1), 1), (.V 3, .P (.V 2) (.V 4), 1), (.P (.V 0) (.P (.V 4) (.N 1)), .V 3, 1)] 1 (.V 0) (.V 1) rfl (Nat.le_of_eq hk) (Ar.up _ _) (Ar.dn (Ar.go [_, _] [(.P (.V 0) (.N 1), .V 1, 1)] 1 (.P (.V 0) (.N 1)) (.V 1) rfl hlt))) (Ar.go [_, _, _, _, _] [(.P (.V 0) (.N 1), .V 2, 1), (.V 3, .P (.V 1) (.P (.V 4) (.N 1)), 1), (.P (.V 2) (.V 4), .V 3, 1)] 1 (.V 0) (.V 1) rfl (Nat.le_of_eq hk.symm) (Ar.up _ _) (Ar.dn (Ar.go [_, _] [(.V 0, .V 1, 1)] 1 (.V 0) (.V 1) rfl hi))))) hlt (F2.change hsb hS'.2.1 hS'.2.2) (fun p hp => ?_) ho'⟩)
      (by simp [sizeLine]; (exact Ar.go [_, _] [(.V 1, .N 1000, 1), (.V 0, .V 1, 1)] 1 (.V 0) (.N 16777216) rfl hz (Nat.min_le_right _ _))) (by simp [sizeLine]; (exact Ar.go [_, _] [(.V 1, .N 1000, 1), (.V 0, .V 1, 1)] 1 (.V 0) (.N 16777217) rfl hz (Nat.min_le_right _ _)))
    rcases List.mem_cons.mp hp with rfl | hp
    · exact ⟨(hsb.2 _ (Ne.symm hS)).trans (N2 _ (.head _)).1, (N2 _ (.head _)).2⟩
    · rcases List.mem_cons.mp hp with rfl | hp
      · exact ⟨(hsb.2 _ (Ne.symm hS2)).trans (N2 _ (.tail _ (.head _))).1, (N2 _ (.tail _ (.head _))).2⟩
      · rcases List.mem_cons.mp hp with rfl | hp
        · exact ⟨(hsb.2 _ (Ne.symm hS3)).trans (N2 _ (.tail _ (.tail _ (.head _)))).1, (N2 _ (.tail _ (.tail _ (.head _)))).2⟩
        · rcases List.mem_cons.mp hp with rfl | hp
          · exact ⟨hc2, hS'.2⟩
          · have := N2 p (.tail _ (.tail _ (.tail _ (.tail _ hp))))
            exact ⟨(hsb.2 _ (hSr p hp)).trans this.1, this.2⟩
end
end Mine
end
section
open PySem PySem.Calls PySem.W PyProof.Rows
namespace Mine
section
variable {prog : Program} {w : World} {A : Around} {E : Value → Shared → Prop} {s : Shared} {h₀ : Heap} {L l M T I : Addr} {m : Str → Option Value} {rest : List (Addr × Obj)} {vs : List Value} {n : Nat} {f : Value}
theorem pyIter_map {Q : Value → Shared → Prop} (hT : s.TypeIs (.ref M) "map") (h : Q (.ref M) s) : wpAny (model prog w) A (pyIter (.ref M)) Q E s := by
  refine wpAny_pyIter_slot hT map_slot_iter (wpAny_call_entry map_slot_iter hT map_entry_iter ?_ (map_args_iter _))
  show wpAny _ _ (ret (.ref M)) _ _ s
  exact wpAny_pure ⟨_, rfl, "map", _, hT, map_slot_next.lookup, h⟩
theorem collect_map {Q : List Value → Shared → Prop} (hh : A.handled = none) (hid : IdCall prog w A.in1.in1 h₀ L m vs f s) (hM : M ≠ I) (hT : T ≠ I) (hI : ∀ p ∈ rest, p.1 ≠ I) (hz : vs.length ≤ 1000) (hl : (l, listOf vs.toArray n) ∈ rest)
    (F : Fr h₀ L s.heap m) (N : News h₀ L s.heap ((M, mapObj T f) :: (T, mapTup I) :: (I, mapIt l) :: rest))
    (done : ∀ h tk, Fr h₀ L h m → News h₀ L h rest → Q vs { s with heap := h, toks := tk }) : wpAny (model prog w) A (collect (.ref M)) Q E s := by
  have hlt := fun p hp => Heap.lt_size (N p hp).1
  have hne : ∀ p ∈ (M, mapObj T f) :: (T, mapTup I) :: (I, mapIt l) :: rest, s.heap.objs.size ≠ p.1 := fun p hp => Nat.ne_of_gt (hlt p hp)
  unfold collect
  refine wpAny_bind (wpAny_runValue (codeAny_builtin PySem.F.entry_proto_collect ?_))
  rw [Around.under_plainId PySem.F.plain_proto_collect _]
  show wpAny _ A.in1 (newList [] >>= fun l => again (.builtin "list.__iadd__" ⟨[l, .ref M], []⟩)) _ _ s
  refine wpAny_bind (wpAny_newObj_type ?_)
  refine wpAny_pure ⟨plainId_quiet PySem.F.plain_list_iadd _, codeAny_builtin PySem.F.entry_list_iadd ?_⟩
  rw [Around.under_plainId PySem.F.plain_list_iadd _]
  have F1 := F.push (listOf ([] : List Value).toArray 0)
  have N1 := News.push F N (listOf ([] : List Value).toArray 0) rfl
  have hTM : ({ s with heap := s.heap.push (listOf ([] : List Value).toArray 0) } : Shared).TypeIs (.ref M) "map" := ⟨_, (N1 _ (.tail _ (.head _))).1, rfl⟩
  show wpAny _ A.in1 (Builtin.List.listExtendWith (.ref s.heap.objs.size) (.ref M) (.ref s.heap.objs.size)) _ _ { s with heap := s.heap.push (listOf ([] : List Value).toArray 0) }
  unfold Builtin.List.listExtendWith
  refine wpAny_bind (wpAny_typeOf hTM ?_)
  have h1 : Builtin.List.listSameRef (.ref s.heap.objs.size) (.ref M) = false := by simp [Builtin.List.listSameRef, hne _ (.head _)]
  have h2 : (Value.type "map" == Value.type "list") = false := by decide
  have h3 : (Value.type "map" == Value.type "tuple") = false := by decide
  rw [h1, h2, h3]
  refine bm_if_false rfl ?_
  refine wpAny_bind (pyIter_map hTM ?_)
  refine wpAny_bind (wpAny_holding ?_)
  unfold Builtin.List.listLengthHint
  refine wpAny_bind (wpAny_specialOf hTM map_no_len ?_)
  show wpAny _ A.in1 (specialOf (Value.ref M) (Str.ofString "__length_hint__") >>= _) _ _ _
  refine wpAny_bind (wpAny_specialOf hTM map_no_hint ?_)
  refine wpAny_pure ?_
  show wpAny _ A.in1 (rule "list.extend.makes-room" >>= fun _ => Builtin.List.listTouch (.ref s.heap.objs.size) >>= fun _ =>
    again (.builtin "list.extend.loop" ⟨[.ref s.heap.objs.size, .ref M, .ref s.heap.objs.size], []⟩)) _ _ _
  refine wpAny_bind (wpAny_rule ?_)
  refine wpAny_bind ?_
  show wpAny _ A.in1 (updateSeq s.heap.objs.size (·.push .none) >>= fun _ => updateSeq s.heap.objs.size (·.pop)) _ _ _
  have hS1 := N1 _ (.head _)
  refine wpAny_bind (wpAny_updateSeq hS1.1 rfl ?_)
  have g1 := get?_update_seq (h := s.heap.push (listOf ([] : List Value).toArray 0)) hS1.1 fun x => x.push Value.none
  refine wpAny_updateSeq g1 rfl ?_
  have g2 := get?_update_seq g1 fun x => x.pop
  obtain ⟨c2, g2⟩ : ∃ c2, (((s.heap.push (listOf ([] : List Value).toArray 0)).update s.heap.objs.size (Obj.mapSeq fun x => x.push Value.none)).update s.heap.objs.size (Obj.mapSeq fun x => x.pop)).get? s.heap.objs.size = some (listOf (vs.take 0).toArray c2) := ⟨_, g2⟩
  have s1 := Heap.SameBut.update (s.heap.push (listOf ([] : List Value).toArray 0)) s.heap.objs.size (Obj.mapSeq fun x => x.push Value.none)
  have s2 := Heap.SameBut.update ((s.heap.push (listOf ([] : List Value).toArray 0)).update s.heap.objs.size (Obj.mapSeq fun x => x.push Value.none)) s.heap.objs.size (Obj.mapSeq fun x => x.pop)
  have F3 := (F1.change s1 hS1.2.1 hS1.2.2).change s2 hS1.2.1 hS1.2.2
  have keep : ∀ p ∈ (M, mapObj T f) :: (T, mapTup I) :: (I, mapIt l) :: rest, (((s.heap.push (listOf ([] : List Value).toArray 0)).update s.heap.objs.size (Obj.mapSeq fun x => x.push Value.none)).update s.heap.objs.size (Obj.mapSeq fun x => x.pop)).get? p.1 = some p.2 ∧ p.1 ≠ L ∧ h₀.get? p.1 = none := fun p hp => by
    have := N1 p (.tail _ hp)
    exact ⟨(s2.2 _ (Ne.symm (hne p hp))).trans ((s1.2 _ (Ne.symm (hne p hp))).trans this.1), this.2⟩
  have ofl := extend_map (S := s.heap.objs.size) (res := .ref s.heap.objs.size) (R := fun r s' => match r with
      | .ok (.ret v) => wpAny (model prog w) A (match v with
        | .ref a => do match (← load a).data with
          | .seq xs _ => pure xs.toList
          | _ => unsupported "internal:collect"
        | _ => unsupported "internal:collect") Q E s'
      | .ok _ => False
      | .error e => E e s') hh hid hM hT hI (hne _ (.head _)) (hne _ (.tail _ (.head _))) (hne _ (.tail _ (.tail _ (.head _)))) (fun p hp => Ne.symm (hne p (.tail _ (.tail _ (.tail _ hp))))) hz hl (fun h tk c F4 N4 => by
        have := N4 _ (.head _)
        refine wpAny_bind (wpAny_load (s := { s with heap := h, toks := tk }) this.1 ?_)
        exact wpAny_pure (done h tk F4 fun p hp => N4 p (.tail _ hp))) vs.length 0
  refine wpAny_pure ⟨plainId_quiet PySem.F.plain_extend_loop _, ofl _ s.toks c2 (mapIt l) rfl (Nat.zero_le _) F3 (fun p hp => ?_) ⟨rfl, rfl⟩⟩
  rcases List.mem_cons.mp hp with rfl | hp
  · exact keep _ (.head _)
  · rcases List.mem_cons.mp hp with rfl | hp
    · exact keep _ (.tail _ (.head _))
    · rcases List.mem_cons.mp hp with rfl | hp
      · exact keep _ (.tail _ (.tail _ (.head _)))
      · rcases List.mem_cons.mp hp with rfl | hp
        · exact ⟨g2, hS1.2⟩
        · exact keep _ (.tail _ (.tail _ (.tail _ hp)))
end
end Mine
end
section
open PySem PySem.Calls PySem.W PyProof.Rows
namespace Mine
theorem meets_tuple_new_map {prog : Program} {w : World} (M : Addr) : MeetsIn prog w (Builtin.«tuple.__new__» ⟨[.type "tuple", .ref M], []⟩)
    (fun A R s => s.TypeIs (.ref M) "map" ∧ wpAny (model prog w) A.in1 (collect (.ref M)) (fun xs s₁ => xs.toArray.size ≤ sizeLine ∧ R (.ok (.ret (.ref s₁.heap.objs.size))) { s₁ with heap := s₁.heap.push { cls := .type "tuple", data := .seq xs.toArray } }) (fun e s' => R (.error e) s') s) :=
  .of_wp fun A R s h => by
    obtain ⟨hp, g, d, tk, os⟩ := s; obtain ⟨hT, h⟩ := h
    have hsub := sub_tuple_self
    have hinit := init_tuple_lookup
    have hmh := madeHere_tuple
    have coll : ∀ {Q' : List Value → Shared → Prop}, (∀ xs s₁, (xs.toArray.size ≤ sizeLine ∧ R (.ok (.ret (.ref s₁.heap.objs.size))) { s₁ with heap := s₁.heap.push { cls := .type "tuple", data := .seq xs.toArray } }) → Q' xs s₁) →
      wpAny (model prog w) A.in1 (collect (.ref M)) Q' (fun e s' => R (.error e) s') ⟨hp, g, d, tk, os⟩ := fun hq => wpAny_mono h (fun xs s₁ hx => hq xs s₁ hx) fun _ _ e => e
    wp_walk using wpAny_typeOf hT, coll
    intro xs s₁ hx
    show wpAny _ _ (Builtin.Tuple.tupleExact xs.toArray >>= fun v => ret v) _ _ _
    unfold Builtin.Tuple.tupleExact
    refine wpAny_bind (wpAny_newObj_type ?_ hx.1)
    exact wpAny_pure ⟨_, rfl, hx.2⟩
section
variable {prog : Program} {w : World} {A : Around} {E : Value → Shared → Prop} {s : Shared} {h₀ : Heap} {L l M T I : Addr} {m : Str → Option Value} {rest : List (Addr × Obj)} {vs : List Value} {n : Nat} {f : Value}
theorem tuple_map {Q : Value → Shared → Prop} (hh : A.handled = none) (hid : IdCall prog w A.in1.in1.in1.in1 h₀ L m vs f s) (hM : M ≠ I) (hT : T ≠ I) (hI : ∀ p ∈ rest, p.1 ≠ I) (hz : vs.length ≤ 1000) (hl : (l, listOf vs.toArray n) ∈ rest)
    (F : Fr h₀ L s.heap m) (N : News h₀ L s.heap ((M, mapObj T f) :: (T, mapTup I) :: (I, mapIt l) :: rest))
    (h : ∀ D h' tk, (∀ p ∈ rest, p.1 < D) → Fr h₀ L h' m → News h₀ L h' ((D, { cls := .type "tuple", data := .seq vs.toArray }) :: rest) → Q (.ref D) { s with heap := h', toks := tk }) :
    wpAny (model prog w) A (call (.type "tuple") [.ref M]) Q E s := by
  refine callType_newIn PySem.F.called_tuple (by decide) (PySem.F.typeCall_tuple_1 _) (PySem.F.newCall_tuple_1 _) (fun obj => PySem.F.args_object_init_2 obj _) PySem.F.entry_tuple_new (meets_tuple_new_map M) ⟨⟨_, (N _ (.head _)).1, rfl⟩, ?_⟩
  refine collect_map (by exact hh) hid hM hT hI hz hl F N fun h1 tk F1 N1 => ⟨by simp [sizeLine]; (exact Ar.go [_] [(.V 0, .N 1000, 1)] 1 (.V 0) (.N 16777216) rfl hz), ⟨_, Heap.get?_push_size _ rfl, rfl⟩, ?_⟩
  exact h _ _ _ (fun p hp => Heap.lt_size (N1 p hp).1) (F1.push _) (News.push F1 N1 _ rfl)
end
end Mine
end
section
open PySem PySem.Calls PySem.W PyProof.Rows
namespace Mine
noncomputable def byText (w : World) : Bool := w.params.followText "set-order"
noncomputable def setTab (led : Bool) : SetTable := { mask := 7, place := #[1], dummies := #[], finger := 0, led := led, moves := 0, plain := true }
noncomputable def setO0 (led : Bool) : Obj := { cls := .type "set", data := .set #[] 0 (.fresh 0 0 led) }
noncomputable def setO1 (led : Bool) (ep : Nat) : Obj := { cls := .type "set", data := .set #[(1, .bool true)] ep (setTab led) }
section
variable {prog : Program} {w : World} {A : Around} {E : Value → Shared → Prop} {s : Shared}
theorem pyHash_true {Q : Int → Shared → Prop} (h : Q 1 { s with toks := s.toks + 1 }) : wpAny (model prog w) A (pyHash (.bool true)) Q E s := by
  have hT : s.TypeIs (.bool true) "bool" := rfl
  unfold pyHash
  have hv : [Value.bool true].any Value.onHeap = false := rfl
  refine wpAny_bind ?_
  rw [cRoomFor, if_neg (by rw [hv]; exact Bool.false_ne_true)]; refine wpAny_pure ?_
  refine wpAny_bind (wpAny_specialOf hT PySem.F.slot_bool_hash.lookup ?_)
  show wpAny _ _ (if (some (Value.builtin "int.__hash__") == some Value.none) = true then _ else _) Q E s
  rw [if_neg (by rw [beq_builtin_none]; exact Bool.false_ne_true)]
  refine wpAny_bind (wpAny_specialOf hT PySem.F.slot_bool_hash.lookup ?_)
  show wpAny _ _ (callSpecialIfBoundUnlessNone? (.bool true) "__hash__" _ >>= _) Q E s
  refine wpAny_bind (wpAny_callSpecialIfBoundUnlessNone?_slot hT PySem.F.slot_bool_hash
    (wpAny_call_entry PySem.F.slot_bool_hash hT entry_int_hash
      (show wpAny _ _ (do ret (← mkInt 1)) _ _ s from wpAny_ret_mkInt ?_) (args_int_hash _)))
  show wpAny _ _ (if (decide (-(2 : Int) ^ 63 ≤ 1) && decide ((1 : Int) < 2 ^ 63)) = true then _ else _) Q E _
  rw [if_pos (by decide)]
  exact wpAny_pure h
theorem layNew_true (led : Bool) : layNew (.fresh 0 0 led) #[] 1 (.bool true) = (#[(1, .bool true)], setTab led, false, false) := by
  cases led <;> decide +kernel
theorem full_true (led : Bool) : (setTab led).tooFull = false := by cases led <;> decide +kernel
theorem fits_true (led : Bool) : (setTab led).fits 1 = true := by cases led <;> decide +kernel
theorem fits_none (led : Bool) : (SetTable.fresh 0 0 led).fits 0 = true := by cases led <;> decide +kernel
end
end Mine
end
section
open PySem PySem.Calls PySem.W PyProof.Rows
namespace Mine
section
variable {prog : Program} {w : World} {A : Around} {E : Value → Shared → Prop} {s : Shared}
theorem eqBool_true {Q : Bool → Shared → Prop} (h : Q true s) : wpAny (model prog w) A (eqBool (.bool true) (.bool true)) Q E s := by
  have := SeqAt.EqAt.of_in1 (A := A) (s := s) (y := .bool true) (x := .bool true) (b := true) (by
    intro prog w E Q hq
    unfold eqBool
    try with_reducible refine wpAny_holding ?_
    show wpAny _ _ (if (Value.bool true == Value.bool true) = true then _ else _) Q E _
    rw [if_pos (by decide)]
    exact wpAny_bind (wpAny_rule (wpAny_pure hq)))
  exact this prog w E Q h
theorem set_add_true {a : Addr} {o : Obj} {led : Bool} {Q : Value → Shared → Prop} (ho : s.heap.get? a = some o) (hc : o = setO0 led ∨ ∃ ep, o = setO1 led ep)
    (h : ∀ h' ep tk, Heap.SameBut a s.heap h' → h'.get? a = some (setO1 led ep) → Q .none { s with heap := h', toks := tk }) :
    wpAny (model prog w) A (call (.builtin "set.add") [.ref a, .bool true]) Q E s := by
  have hT : s.TypeIs (.ref a) "set" := by rcases hc with rfl | ⟨ep, rfl⟩ <;> exact ⟨_, ho, rfl⟩
  refine wpAny_call_entry PySem.F.slot_set_add hT PySem.F.entry_set_add ?_ (PySem.F.args_set_add_2 _ _)
  unfold Builtin.«set.add» Builtin.Frozenset.oneOther
  simp only [List.isEmpty_nil, bind_assoc]
  unfold Builtin.Frozenset.addrOf setAdd
  refine wpAny_bind (wpAny_pure ?_)
  try dsimp only
  refine wpAny_bind (wpAny_pure ?_)
  try dsimp only
  refine wpAny_bind ?_
  refine wpAny_holding ?_
  refine wpAny_bind (pyHash_true ?_)
  unfold setAddHashed setAddHashedIn
  rcases hc with rfl | ⟨ep, rfl⟩
  · refine wpAny_holding (wpAny_bind (wpAny_setState_of (s := { s with toks := s.toks + 1 }) ho rfl (fits_none led) ?_))
    dsimp only
    rw [if_pos (by decide +kernel)]
    unfold setAddByScan
    refine wpAny_bind ?_
    refine wpAny_bind (wpAny_rule ?_)
    refine wpAny_bind (m := setScan _ _ _ _ _) (wpAny_of_eq (a := ScanMet.absent) rfl ?_)
    dsimp only
    rw [layNew_true]
    dsimp only
    refine wpAny_bind (m := (pure () : Sem Unit)) (wpAny_pure ?_)
    rw [if_pos (by rfl)]
    refine wpAny_bind (m := hashByValue 8 _) (wpAny_of_eq (a := true) rfl ?_)
    rw [if_pos rfl]
    refine wpAny_bind (wpAny_storeSet_of (s := { s with toks := s.toks + 1 }) ho rfl ?_ (by simp [sizeLine]))
    rw [full_true, if_neg (by decide)]
    refine wpAny_pure (wpAny_pure (wpAny_pure ⟨_, rfl, ?_⟩))
    refine h _ 1 _ (Heap.SameBut.update _ a _) ?_
    exact Heap.get?_update_self _ ho rfl
  · refine wpAny_holding (wpAny_bind (wpAny_setState_of (s := { s with toks := s.toks + 1 }) ho rfl (fits_true led) ?_))
    dsimp only
    rw [if_pos (by decide +kernel)]
    unfold setAddByScan
    refine wpAny_bind ?_
    refine wpAny_bind (wpAny_rule ?_)
    refine wpAny_bind (m := setScan _ _ _ _ _) ?_
    show wpAny _ _ (setScanFrom a (.bool true) 1 true [(1, .bool true)] 0) _ _ _
    unfold setScanFrom
    rw [if_pos (by decide)]
    refine wpAny_bind (wpAny_setEpoch_of (s := { s with toks := s.toks + 1 }) ho rfl (fits_true led) ?_)
    refine wpAny_bind (eqBool_true ?_)
    rw [if_pos (by decide)]
    refine wpAny_pure (wpAny_pure ?_)
    dsimp only
    exact wpAny_pure (wpAny_pure ⟨_, rfl, h _ ep _ (Heap.SameBut.refl a s.heap) ho⟩)
end
end Mine
end
section
open PySem PySem.Calls PySem.W PyProof.Rows
namespace Mine
section
variable {prog : Program} {w : World} {A : Around} {E : Value → Shared → Prop} {s : Shared} {h₀ : Heap} {L : Addr} {m : Str → Option Value} {env : Env}
theorem compTurn_set1 (elt target iter : Expr) (scope : Scope) (pos : Pos) (it acc : Value) (env : Env) :
    compTurn (.SetComp elt [⟨target, iter, [], 0⟩] scope pos) 0 it acc env = (standAt iter.pos >>= fun _ => pyNext it >>= fun r => match r with
      | none => pure (.done .next)
      | some v => letOwnedTupleGo target it v >>= fun _ => assign target env v >>= fun _ =>
        (eval elt env >>= fun x => standAt elt.pos >>= fun _ => call (.builtin "set.add") [acc, x] >>= fun _ => pure ()) >>= fun _ =>
          again (.compLoop (.SetComp elt [⟨target, iter, [], 0⟩] scope pos) 0 it acc env)) := by rfl
theorem compStart_set {elt target iter : Expr} {scope : Scope} {pos : Pos} {it acc : Value} {env : Env} {R : Result → Shared → Prop}
    (h0 : codeAny (model prog w) A (.compLoop (.SetComp elt [⟨target, iter, [], 0⟩] scope pos) 0 it acc env) R s)
    (h : wpAny (model prog w) A (pyIter it) (fun it' s' => codeAny (model prog w) A (.compLoop (.SetComp elt [⟨target, iter, [], 0⟩] scope pos) 0 it' acc env) R s')
      (notedBy (model prog w) A env fun x s' => R (.error x) s') s) :
    codeAny (model prog w) A (.compStart (.SetComp elt [⟨target, iter, [], 0⟩] scope pos) 0 it acc env) R s := by
  refine codeAny_of_tree ?_
  show wpAny _ _ ((compStart (.SetComp elt [⟨target, iter, [], 0⟩] scope pos) 0 it acc env).onRaise (fun x => do noteFrame x env; standAt theWindowsPlace)) _ _ s
  refine wpAny_notedAt ?_
  unfold compStart
  show wpAny _ _ (ask >>= _) _ _ s
  refine wpAny_bind (wpAny_askSetting (wpAny_ite ?_))
  split
  · first
      | exact wpAny_bind (wpAny_pure (wpAny_pure (And.intro rfl h0)))
      | exact wpAny_pure (And.intro rfl h0)
  · first
      | exact wpAny_bind (wpAny_rule (wpAny_bind (wpAny_standAt (wpAny_bind (wpAny_mono h (fun it' s' h' => wpAny_pure (And.intro rfl h')) fun _ _ x => x)))))
      | (refine wpAny_bind (wpAny_rule ?_); show wpAny _ _ (standAt iter.pos >>= _) _ _ s; exact wpAny_bind (wpAny_standAt (wpAny_bind (wpAny_mono h (fun it' s' h' => wpAny_pure (And.intro rfl h')) fun _ _ x => x))))
theorem compLoop_set {elt target iter : Expr} {scope : Scope} {pos : Pos} {it acc : Value} {env : Env} {R : Result → Shared → Prop} (I : Nat → Shared → Prop)
    (turn : ∀ n s, I n s → wpAny (model prog w) A (pyNext it) (fun r s₁ => match r with
      | none => R (.ok .next) s₁
      | some v => wpAny (model prog w) A (assign target env v) (fun _ s₂ => wpAny (model prog w) A (eval elt env) (fun x s₃ =>
          wpAny (model prog w) A (call (.builtin "set.add") [acc, x]) (fun _ s₄ => ∃ m, m < n ∧ I m s₄) (notedBy (model prog w) A env fun e s' => R (.error e) s') s₃)
          (notedBy (model prog w) A env fun e s' => R (.error e) s') s₂) (notedBy (model prog w) A env fun e s' => R (.error e) s') s₁) (notedBy (model prog w) A env fun e s' => R (.error e) s') s)
    (n : Nat) (h : I n s) (ht : ∀ v, letOwnedTupleGo target it v = pure () := by intro _; rfl) :
    codeAny (model prog w) A (.compLoop (.SetComp elt [⟨target, iter, [], 0⟩] scope pos) 0 it acc env) R s := by
  refine codeAny_loop rfl I (fun n s hI => ?_) n h
  show wpAny _ _ ((compTurn (.SetComp elt [⟨target, iter, [], 0⟩] scope pos) 0 it acc env).onRaise (fun x => do noteFrame x env; theTreesLotGoes x)) _ _ s
  refine wpAny_noted ?_
  rw [compTurn_set1]
  refine wpAny_bind (wpAny_standAt (wpAny_bind (wpAny_mono (turn n s hI) (fun r s₁ h₁ => ?_) fun _ _ h' => h')))
  cases r with
  | none => exact wpAny_pure h₁
  | some v =>
    refine wpAny_bind (wpAny_of_eq (ht v) ?_)
    exact wpAny_bind (wpAny_mono h₁ (fun _ s₂ h₂ => wpAny_bind (wpAny_bind (wpAny_mono h₂ (fun x s₃ h₃ => wpAny_bind (wpAny_standAt (wpAny_bind (wpAny_mono h₃
      (fun _ s₄ h₄ => wpAny_pure (wpAny_pure ⟨rfl, h₄⟩)) fun _ _ h' => h')))) fun _ _ h' => h'))) fun _ _ h' => h')
end
end Mine
end
section
open PySem PySem.Calls PySem.W PyProof.Rows
set_option genInjectivity false
set_option genSizeOf false
namespace Mine
open LCg
section
variable {prog : Program} {w : World} {A : Around} {E : Value → Shared → Prop} {s : Shared} {h₀ : Heap} {L : Addr} {m : Str → Option Value} {env : Env}
noncomputable def SetEnd (h₀ : Heap) (L : Addr) (m : Str → Option Value) (led : List (Addr × Obj)) (s₁ : Shared) (y : Value) (s₂ : Shared) : Prop :=
  y = .bool true ∧ ∃ h' tk', s₂ = { s₁ with heap := h', toks := tk' } ∧ Fr h₀ L h' m ∧ News h₀ L h' led
theorem SetEnd.intro {h₀ h' : Heap} {L : Addr} {m : Str → Option Value} {led led' : List (Addr × Obj)} {s₁ : Shared} {b : Bool} {tk' : Nat} (hb : b = true) (F : Fr h₀ L h' m) (N : News h₀ L h' led') (hs : ∀ p ∈ led, p ∈ led') : SetEnd h₀ L m led s₁ (.bool b) { s₁ with heap := h', toks := tk' } :=
  ⟨by rw [hb], h', tk', rfl, F, fun p hp => N p (hs p hp)⟩
theorem new_set {Q : Value → Shared → Prop} (h : Q (.ref s.heap.objs.size) { s with heap := s.heap.push (setO0 (!byText w)) }) : wpAny (model prog w) A (newSet (.type "set")) Q E s := by
  unfold newSet setsByText
  refine wpAny_bind (wpAny_bind (wpAny_askSetting (wpAny_pure ?_)))
  dsimp only
  simp only [newObj]
  exact wpAny_bind (wpAny_alloc (wpAny_pure h))
noncomputable def SetO (led : Bool) (i : Nat) (o : Obj) : Prop := (o = setO0 led ∧ i = 0) ∨ ((∃ ep, o = setO1 led ep) ∧ 0 < i)
inductive SetInv (s₂ : Shared) (n : Nat) (St : Nat → Heap → Prop) (h₀ : Heap) (L : Addr) (m : Str → Option Value) (C : Addr) (news : List (Addr × Obj)) (led : Bool) : Nat → Shared → Prop
  | mk (h' : Heap) (tk i : Nat) (m' : Str → Option Value) (o : Obj) (hi : i ≤ n) (hst : St i h') (F : Fr h₀ L h' m) (hn : h'.Ns C m') (N : News h₀ L h' ((s₂.heap.objs.size, o) :: news)) (hO : SetO led i o) : SetInv s₂ n St h₀ L m C news led (n + 1 - i) { s₂ with heap := h', toks := tk }
theorem block_set {elt iter : Expr} {x : Str} {px : Pos} {scope : Scope} {cl : List (Str × Addr)} {pos : Pos} {s₂ : Shared} {I : Addr} {fp : List Addr} {n : Nat} {P : Nat → Value → Prop} {St : Nat → Heap → Prop} {news : List (Addr × Obj)}
    {RR : Value → Addr → Result → Shared → Prop}
    (W : Walks prog w A I fp [I] n P St) (hIo : ∀ i h, St i h → ∃ o, h.get? I = some o)
    (hSt : ∀ i h h' o nw, St i h → h.get? I = some o → h'.get? I = some o → (∀ b o, h₀.get? b = some o → h'.get? b = some o) → News h₀ L h' nw → (∀ p ∈ news, p ∈ nw) → St i h')
    (hcell : ∀ y ∈ scope.names, y.2 ≠ .cell) (hkind : scope.kind = .function) (hx : scope.names.lookup x = some .local) (hst : St 0 s₂.heap) (hfp : ∀ b ∈ fp, b < s₂.heap.objs.size)
    (F : Fr h₀ L s₂.heap m) (N : News h₀ L s₂.heap news) (hIL : L ≠ I) (hI₀ : h₀.get? I = none) (off : ∀ p ∈ news, p.1 ≠ I)
    (elem : ∀ i v oI C oC D oD m₂ h tk (E' : Value → Shared → Prop), i < n → P i v → NsObj oC m₂ → m₂ x = some v → Fr h₀ L h m → News h₀ L h ((I, oI) :: (C, oC) :: (D, oD) :: news) → Off3 I C D news → ((@Ne Nat I C) ∧ (@Ne Nat I D) ∧ (@Ne Nat C D)) →
      wpAny (model prog w) A (eval elt (compEnvC scope cl C env)) (SetEnd h₀ L m ((I, oI) :: (C, oC) :: (D, oD) :: news) { s₂ with heap := h, toks := tk }) E' { s₂ with heap := h, toks := tk })
    (hRR : ∀ D C h tk m' o, Fr h₀ L h m → News h₀ L h ((D, o) :: news) → Off1 D news → h.Ns C m' → h₀.get? C = none → h₀.get? D = none → C ≠ L → D ≠ L → C ≠ D → (∀ p ∈ news, p.1 ≠ C) → SetO (!byText w) n o → RR (.ref D) C (.ok .next) { s₂ with heap := h, toks := tk }) :
    wpAny (model prog w) A (newSet (.type "set")) (fun acc s₃ => wpAny (model prog w) A (newFunctionEnv scope env.globals cl [] env.qual none .none (some env)) (fun cenv s₄ =>
      codeAny (model prog w) A (.compStart (.SetComp elt [⟨.Name x px, iter, [], 0⟩] scope pos) 0 (.ref I) acc { cenv with scope := relabel scope env }) (RR acc cenv.locals) s₄) E s₃) E s₂ := by
  refine new_set (wpAny_newFunctionEnv hcell (by intro y hy; simp at hy) (fun h₁ hns₁ hsb₁ => ?_) hkind)
  dsimp only at hns₁ hsb₁ ⊢
  generalize hH2 : s₂.heap.push (setO0 (!byText w)) = H2 at hns₁ hsb₁ ⊢
  have hC : H2.objs.size = s₂.heap.objs.size + 1 := by rw [← hH2, Heap.size_push]
  have hDC : s₂.heap.objs.size ≠ H2.objs.size := by rw [hC]; exact Nat.ne_of_lt (Nat.lt_succ_self _)
  have below : ∀ b, b < s₂.heap.objs.size → b ≠ H2.objs.size ∧ b ≠ s₂.heap.objs.size := fun b hb => ⟨by rw [hC]; exact Nat.ne_of_lt (Nat.lt_succ_of_lt hb), Nat.ne_of_lt hb⟩
  have hDf : s₂.heap.objs.size ∉ fp := fun hm => Nat.lt_irrefl _ (hfp _ hm)
  have hCf : H2.objs.size ∉ fp := fun hm => by have := hfp _ hm; rw [hC] at this; exact Nat.lt_irrefl _ (Nat.lt_of_succ_lt this)
  have hIf : I ∈ fp := W.sub I (List.mem_singleton.mpr rfl)
  have hIlt : I < s₂.heap.objs.size := hfp I hIf
  have old : ∀ b o, s₂.heap.get? b = some o → h₁.get? b = some o := fun b o e => hsb₁.extBut b o (below b (Heap.lt_size e)).1 (Heap.get?_push_of_some _ (hH2 ▸ Heap.get?_push_of_some _ e))
  have hacc : h₁.get? s₂.heap.objs.size = some (setO0 (!byText w)) := hsb₁.extBut _ _ hDC (Heap.get?_push_of_some _ (hH2 ▸ Heap.get?_push_size _ rfl))
  have hst₁ : St 0 h₁ := W.frame _ _ _ hst fun b _ o e => old b o e
  have fresh : ∀ a, s₂.heap.objs.size ≤ a → s₂.heap.get? a = none := fun a ha => by
    cases e : s₂.heap.get? a with
    | none => rfl
    | some o' => exact absurd (Heap.lt_size e) (Nat.not_lt.mpr ha)
  have fresh₀ : ∀ a, s₂.heap.objs.size ≤ a → h₀.get? a = none := fun a ha => by
    cases e : h₀.get? a with
    | none => rfl
    | some o' => have := F.keep a o' e; rw [fresh a ha] at this; cases this
  have hD₀ : h₀.get? s₂.heap.objs.size = none := fresh₀ _ (Nat.le_refl _)
  have hC₀ : h₀.get? H2.objs.size = none := fresh₀ _ (by rw [hC]; exact Nat.le_succ _)
  have hLlt : L < s₂.heap.objs.size := F.ns.lt
  have hDL : s₂.heap.objs.size ≠ L := Ne.symm (below L hLlt).2
  have hCL : H2.objs.size ≠ L := Ne.symm (below L hLlt).1
  have hCI : I ≠ H2.objs.size := (below I hIlt).1
  have hDI : I ≠ s₂.heap.objs.size := (below I hIlt).2
  have off₀ : Off3 I H2.objs.size s₂.heap.objs.size news := Off3.of fun p hp => ⟨off p hp, (below _ (Heap.lt_size (N p hp).1)).1, (below _ (Heap.lt_size (N p hp).1)).2⟩
  have off3 := off₀.mem
  have loop : ∀ s₃ : Shared, s₃ = { s₂ with heap := h₁, toks := s₂.toks + ([] : List (Str × Value)).length } →
      codeAny (model prog w) A (.compLoop (.SetComp elt [⟨.Name x px, iter, [], 0⟩] scope pos) 0 (.ref I) (.ref s₂.heap.objs.size) (compEnvC scope cl H2.objs.size env))
        (RR (.ref s₂.heap.objs.size) H2.objs.size) s₃ := by
    rintro s₃ rfl
    refine compLoop_set
      (SetInv s₂ n St h₀ L m H2.objs.size news (!byText w)) ?_ (n + 1)
      (.mk h₁ _ 0 _ _ (Nat.zero_le _) hst₁ (F.keeps old) hns₁ (fun p hp => ?_) (.inl ⟨rfl, rfl⟩))
    · rintro k s' ⟨h', tk, i, m', o, hi, hst', F', hn', N', hO'⟩
      by_cases hlt : i < n
      · refine W.item i _ _ _ hlt hst' fun v h₂ tk₂ hPv hst₂ hk₂ => ?_
        refine wpAny_assign_Name (wpAny_storeName_local (lookup_relabel_local hx) (hn'.at' fun o e => hk₂ _ o (by simpa using Ne.symm hCI) e) (fun h₃ hn₃ hs₃ => ?_) (by simp [compEnvC, relabel, hkind]))
        have hst₃ : St (i + 1) h₃ := W.frame _ _ _ hst₂ fun b hb o e => hs₃.extBut b o (fun q => hCf (by have q' : b = H2.objs.size := q; rw [← q']; exact hb)) e
        obtain ⟨oI, heI⟩ := hIo _ _ hst₃
        obtain ⟨oC, heC, hoC⟩ := ns_obj hn₃
        have F₃ : Fr h₀ L h₃ m := (fr_but F' hk₂ hIL hI₀).change hs₃ hCL hC₀
        have N₂ : News h₀ L h₂ ((s₂.heap.objs.size, o) :: news) := news_but N' hk₂ fun p hp => by
          rcases List.mem_cons.mp hp with rfl | hp
          · exact Ne.symm hDI
          · exact (off3 p hp).1
        have N₃ : News h₀ L h₃ ((I, oI) :: (H2.objs.size, oC) :: (s₂.heap.objs.size, o) :: news) := fun p hp => by
          rcases List.mem_cons.mp hp with rfl | hp
          · exact ⟨heI, Ne.symm hIL, hI₀⟩
          · rcases List.mem_cons.mp hp with rfl | hp
            · exact ⟨heC, hCL, hC₀⟩
            · have z := N₂ p hp
              refine ⟨hs₃.extBut _ _ ?_ z.1, z.2⟩
              rcases List.mem_cons.mp hp with rfl | hp
              · exact hDC
              · exact (off3 p hp).2.1
        refine wpAny_mono (elem i v oI H2.objs.size oC s₂.heap.objs.size _ _ h₃ _ _ hlt hPv hoC (by simp) F₃ N₃ off₀ ⟨hCI, hDI, Ne.symm hDC⟩) (fun y s₄ h₄ => ?_) fun _ _ e => e
        obtain ⟨rfl, h₄, tk₄, rfl, F₄, N₄⟩ := h₄
        have zI := (N₄ (I, oI) List.mem_cons_self).1
        have zC := (N₄ (H2.objs.size, oC) (List.mem_cons_of_mem _ List.mem_cons_self)).1
        have zD := (N₄ (s₂.heap.objs.size, o) (List.mem_cons_of_mem _ (List.mem_cons_of_mem _ List.mem_cons_self))).1
        have hst₄ : St (i + 1) h₄ := hSt _ _ _ _ _ hst₃ heI zI F₄.keep N₄ fun p hp => .tail _ (.tail _ (.tail _ hp))
        refine set_add_true (s := { s₂ with heap := h₄, toks := tk₄ }) zD (by rcases hO' with ⟨e, _⟩ | ⟨e, _⟩; exact .inl e; exact .inr e) fun h₅ ep tk₅ hs₅ hD₅ => ?_
        refine ⟨n + 1 - (i + 1), by omega, .mk h₅ tk₅ (i + 1) _ _ hlt (W.frame _ _ _ hst₄ fun b hb o e => hs₅.extBut b o (fun q => hDf (q ▸ hb)) e) (F₄.change hs₅ hDL hD₀)
          ((hoC.ns zC).sameBut hs₅ (Ne.symm hDC)) (fun p hp => ?_) (.inr ⟨⟨ep, rfl⟩, Nat.succ_pos _⟩)⟩
        rcases List.mem_cons.mp hp with rfl | hp
        · exact ⟨hD₅, hDL, hD₀⟩
        · have := N₄ p (.tail _ (.tail _ (.tail _ hp)))
          exact ⟨hs₅.extBut _ _ (off3 p hp).2.2 this.1, this.2⟩
      · obtain rfl : i = n := Nat.le_antisymm hi (Nat.not_lt.mp hlt)
        refine W.done _ _ _ hst' fun h₂ tk₂ hk₂ => ?_
        exact hRR _ _ h₂ tk₂ _ o (fr_but F' hk₂ hIL hI₀) (news_but N' hk₂ fun p hp => by
          rcases List.mem_cons.mp hp with rfl | hp
          · exact Ne.symm hDI
          · exact (off3 p hp).1) off₀.one (hn'.at' fun o e => hk₂ _ o (by simpa using Ne.symm hCI) e) hC₀ hD₀ hCL hDL (Ne.symm hDC) (fun p hp => (off3 p hp).2.1) hO'
    · rcases List.mem_cons.mp hp with rfl | hp
      · exact ⟨hacc, hDL, hD₀⟩
      · exact ⟨old _ _ (N p hp).1, (N p hp).2⟩
  exact compStart_set (loop _ rfl) (W.self 0 _ _ _ hst₁ (loop _ rfl))
end
end Mine
end
section
open PySem PySem.Calls PySem.W PyProof.Rows
set_option genInjectivity false
set_option genSizeOf false
namespace Mine
open LCg
noncomputable abbrev tupO (vs : List Value) : Obj := { cls := .type "tuple", data := .seq vs.toArray }
section
variable {prog : Program} {w : World} {A : Around} {E : Value → Shared → Prop} {s : Shared} {h₀ : Heap} {L : Addr} {m : Str → Option Value} {env : Env}
theorem tup_st {ax I : Addr} {vs : List Value} {news : List (Addr × Obj)} (hm : (ax, tupO vs) ∈ news) : ∀ i (h h' : Heap) (o : Obj) (nw : List (Addr × Obj)), (h.IsTupleIter I ax i ∧ h.IsTuple ax vs.toArray) → h.get? I = some o → h'.get? I = some o → (∀ b o, h₀.get? b = some o → h'.get? b = some o) → News h₀ L h' nw → (∀ p ∈ news, p ∈ nw) → (h'.IsTupleIter I ax i ∧ h'.IsTuple ax vs.toArray) :=
  fun i h h' o nw st e e' k N S => ⟨by obtain ⟨o', q, r⟩ := st.1; rw [e] at q; cases q; exact ⟨o, e', r⟩, ⟨_, (N _ (S _ hm)).1, rfl, 0, rfl⟩⟩
inductive SrcSetI (prog : Program) (w : World) (A : Around) (h₀ : Heap) (L : Addr) (m : Str → Option Value) (env : Env) (elt : Expr) (x : Str) (scope : Scope) (cl : List (Str × Addr)) (Q : Value → Shared → Prop) (s₁ : Shared) : Value → Prop
  | mk (ax : Addr) (vs : List Value) (news : List (Addr × Obj)) (hh : A.handled = none) (F : Fr h₀ L s₁.heap m) (N : News h₀ L s₁.heap news) (hm : (ax, tupO vs) ∈ news) (hp : 0 < vs.length)
    (el : ∀ (i : Nat) (v : Value) I oI C oC D oD m₂ g h tk (E' : Value → Shared → Prop), vs[i]? = some v → NsObj oC m₂ → m₂ x = some v → Fr h₀ L h m → News h₀ L h ((I, oI) :: (C, oC) :: (D, oD) :: news) → Off3 I C D news → ((@Ne Nat I C) ∧ (@Ne Nat I D) ∧ (@Ne Nat C D)) →
      wpAny (model prog w) A (eval elt (compEnvC scope cl C env)) (SetEnd h₀ L m ((I, oI) :: (C, oC) :: (D, oD) :: news) { s₁ with heap := g, toks := tk }) E' { s₁ with heap := h, toks := tk })
    (dn : ∀ D h tk ep, Fr h₀ L h m → News h₀ L h ((D, setO1 (!byText w) ep) :: news) → Off1 D news → Q (.ref D) { s₁ with heap := h, toks := tk }) : SrcSetI prog w A h₀ L m env elt x scope cl Q s₁ (.ref ax)
noncomputable def SrcSet (prog : Program) (w : World) (A : Around) (h₀ : Heap) (L : Addr) (m : Str → Option Value) (env : Env) (elt : Expr) (x : Str) (scope : Scope) (cl : List (Str × Addr)) (Q : Value → Shared → Prop) (xv : Value) (s₁ : Shared) : Prop := SrcSetI prog w A h₀ L m env elt x scope cl Q s₁ xv
theorem SetComp_T {elt iter : Expr} {x : Str} {px : Pos} {scope : Scope} {cl : List (Str × Addr)} {pos : Pos} {Q : Value → Shared → Prop} (F₀ : Fr h₀ L s.heap m)
    (hclos : closureFor scope env = pure cl) (hcell : ∀ y ∈ scope.names, y.2 ≠ .cell) (hkind : scope.kind = .function)
    (hnames : ∀ y ∈ scope.names, y.2 = .local → scope.names.lookup y.1 = some .local) (hx : scope.names.lookup x = some .local)
    (h : wpAny (model prog w) A (eval iter env) (SrcSet prog w A h₀ L m env elt x scope cl Q) E s)
    (hs : ∀ x, foldedSetIterable iter env x = pure x := by intro _; rfl) :
    wpAny (model prog w) A (eval (.SetComp elt [⟨.Name x px, iter, [], 0⟩] scope pos) env) Q E s := by
  rw [arm_eval_SetComp]
  refine wpAny_comprehension_free (use := none) rfl hs hclos hkind hnames (wpAny_mono h (fun xv s₁ h₁ => ?_) fun _ _ e => e)
  obtain ⟨ax, vs, news, hh, F, N, hm, hpos, elem, done⟩ := h₁
  have hD := (N _ hm).1
  have hT : s₁.heap.IsTuple ax vs.toArray := ⟨_, hD, rfl, 0, rfl⟩
  have hlt : ax < s₁.heap.objs.size := Heap.lt_size hD
  refine wpAny_pyIter_tuple hT ?_
  refine block_set (Walks.tuple hh s₁.heap.objs.size ax (Nat.ne_of_lt hlt) vs.toArray) (fun i h st => by obtain ⟨o, e, _⟩ := st.1; exact ⟨o, e⟩) (tup_st hm) hcell hkind hx ⟨⟨_, Heap.get?_push_size _ rfl, rfl, rfl⟩, hT.push _⟩ (fun b hb => ?_)
    (F.keeps fun _ _ e => Heap.get?_push_of_some _ e) (N.grown fun _ _ e => Heap.get?_push_of_some _ e) (Nat.ne_of_lt F.ns.lt) (next_is_new F) (fun p hp => Nat.ne_of_lt (Heap.lt_size (N p hp).1)) ?_ ?_
  · show b < (s₁.heap.push _).objs.size
    rw [Heap.size_push]
    rcases List.mem_cons.mp hb with rfl | hb
    · exact Nat.lt_succ_self _
    · rw [List.mem_singleton.mp hb]; exact Nat.lt_succ_of_lt hlt
  · intro i v oI C oC D oD m₂ h tk E' hi hv hC hx2 F2 N2 off ne
    exact elem i v _ oI C oC D oD m₂ _ h tk E' (by simpa using hv) hC hx2 F2 N2 off ne
  · intro D C h tk m' o F' N' o1 hn hC₀ hD₀ hCL hDL hCD offC hO
    refine ⟨m', hn, fun h'' hs'' => ?_⟩
    rcases hO with ⟨_, e0⟩ | ⟨⟨ep, rfl⟩, _⟩
    · simp at e0; rw [e0] at hpos; exact absurd hpos (by simp)
    · refine done D h'' tk ep (F'.change hs'' hCL hC₀) (fun p hp => ?_) o1
      refine ⟨hs''.extBut _ _ ?_ (N' p hp).1, (N' p hp).2⟩
      rcases List.mem_cons.mp hp with rfl | hp
      · exact Ne.symm hCD
      · exact offC p hp
inductive SrcTupI (prog : Program) (w : World) (A : Around) (h₀ : Heap) (L : Addr) (m : Str → Option Value) (env : Env) (elt : Expr) (x : Str) (scope : Scope) (cl : List (Str × Addr)) (Fin : Shared → List Value → List (Addr × Obj) → Prop) (s₁ : Shared) : Value → Prop
  | mk (ax : Addr) (vs : List Value) (news : List (Addr × Obj)) (hh : A.handled = none) (F : Fr h₀ L s₁.heap m) (N : News h₀ L s₁.heap news) (hm : (ax, tupO vs) ∈ news) (hz : vs.length ≤ 1000)
    (R : ∀ g, LCg.CompRest prog w A h₀ L m env elt x scope cl { s₁ with heap := g } (fun nw => (ax, tupO vs) ∈ nw) (fun i v => vs[i]? = some v) (Fin { s₁ with heap := g }) vs.length 0 [] news) : SrcTupI prog w A h₀ L m env elt x scope cl Fin s₁ (.ref ax)
noncomputable def SrcTup (prog : Program) (w : World) (A : Around) (h₀ : Heap) (L : Addr) (m : Str → Option Value) (env : Env) (elt : Expr) (x : Str) (scope : Scope) (cl : List (Str × Addr)) (Fin : Shared → List Value → List (Addr × Obj) → Prop) (xv : Value) (s₁ : Shared) : Prop := SrcTupI prog w A h₀ L m env elt x scope cl Fin s₁ xv
theorem Assign_ListComp_Tup {elt iter : Expr} {x y : Str} {px py : Pos} {scope : Scope} {cl : List (Str × Addr)} {pos spos : Pos} {Q : Flow → Shared → Prop} (F₀ : Fr h₀ L s.heap m) (hLe : env.locals = L)
    (hsw : swapsWith (.ListComp elt [⟨.Name x px, iter, [], 0⟩] scope pos) (some (.Name y py)) spos.line env = pure true)
    (hclos : closureFor scope env = pure cl) (hcell : ∀ z ∈ scope.names, z.2 ≠ .cell) (hkind : scope.kind = .function)
    (hnames : ∀ z ∈ scope.names, z.2 = .local → scope.names.lookup z.1 = some .local) (hx : scope.names.lookup x = some .local)
    (hy : env.kindOf y = some .local) (hp : (env.scope.kind == .class || (env.scope.kind == .module && env.locals != env.globals)) = false)
    (h : wpAny (model prog w) A (eval iter env) (SrcTup prog w A h₀ L m env elt x scope cl (fun s₂ => LCg.FinA h₀ L m s₂ y Q)) E s)
    (hs : ∀ x, foldedSetIterable iter env x = pure x := by intro _; rfl) :
    wpAny (model prog w) A (exec (.Assign [.Name y py] (.ListComp elt [⟨.Name x px, iter, [], 0⟩] scope pos) spos) env) Q E s := by
  subst hLe
  rw [exec_Assign_Name_used _ _ _ _ hsw]
  refine wpAny_bind (wpAny_standAt (wpAny_bind ?_))
  show wpAny _ A (do let _ ← comprehension (.ListComp elt [⟨.Name x px, iter, [], 0⟩] scope pos) scope env _ (newList []) false (eval iter env) (some (assign (.Name y py) env))) _ _ s
  refine wpAny_bind (wpAny_mono (wpAny_comprehension_free (use := some (assign (.Name y py) env)) (Q := fun _ s' => Q .next s') rfl hs hclos hkind hnames
    (wpAny_mono h (fun xv s₁ h₁ => ?_) fun _ _ e => e)) (fun _ s' hq => wpAny_pure (wpAny_pure hq)) fun _ _ e => e)
  obtain ⟨ax, vs, news, hh, F, N, hm, hz, R⟩ := h₁
  have hD := (N _ hm).1
  have hT : s₁.heap.IsTuple ax vs.toArray := ⟨_, hD, rfl, 0, rfl⟩
  have hlt : ax < s₁.heap.objs.size := Heap.lt_size hD
  refine wpAny_pyIter_tuple hT ?_
  have W := Walks.tuple (prog := prog) (w := w) (A := A) hh s₁.heap.objs.size ax (Nat.ne_of_lt hlt) vs.toArray
  have W' : Walks prog w A s₁.heap.objs.size [s₁.heap.objs.size, ax] [s₁.heap.objs.size] vs.length (fun i v => vs[i]? = some v) (fun i h => h.IsTupleIter s₁.heap.objs.size ax i ∧ h.IsTuple ax vs.toArray) := by simpa using W
  refine LCg.block_U W' (by unfold sizeLine; (exact Ar.go [_] [(.V 0, .N 1000, 1)] 1 (.V 0) (.N 16777216) rfl hz)) (fun i h st => by obtain ⟨o, e, _⟩ := st.1; exact ⟨o, e⟩) (fun i h h' o nw st e e' k N S => ⟨by obtain ⟨o', q, r⟩ := st.1; rw [e] at q; cases q; exact ⟨o, e', r⟩, ⟨_, (N _ S).1, rfl, 0, rfl⟩⟩) hcell hkind hx ⟨⟨_, Heap.get?_push_size _ rfl, rfl, rfl⟩, hT.push _⟩ (fun b hb => ?_)
    (F.keeps fun _ _ e => Heap.get?_push_of_some _ e) (N.grown fun _ _ e => Heap.get?_push_of_some _ e) (Nat.ne_of_lt F.ns.lt) (next_is_new F) (fun p hp => Nat.ne_of_lt (Heap.lt_size (N p hp).1)) hm (R _) ?_
  · show b < (s₁.heap.push _).objs.size
    rw [Heap.size_push]
    rcases List.mem_cons.mp hb with rfl | hb
    · exact Nat.lt_succ_self _
    · rw [List.mem_singleton.mp hb]; exact Nat.lt_succ_of_lt hlt
  · intro D C h' tk m' ys news' F' N' o1 hn hC₀ hD₀ hCL hDL hCD offC fin
    show wpAny _ A (assign (.Name y py) env (.ref D)) _ _ _
    refine wpAny_assign_Name (wpAny_storeName_local hy F'.ns (fun h₂ hn₂ hs₂ => ?_) hp)
    have hL₀ : h₀.get? env.locals = none := Heap.get?_none_of_le F'.above
    have F₂ : Fr h₀ env.locals h₂ (fun z => if z = y then some (.ref D) else m z) := ⟨hn₂, fun b o e => hs₂.extBut b o (fun q => by rw [q, hL₀] at e; cases e) (F'.keep b o e), F'.above⟩
    refine ⟨m', hn.sameBut hs₂ hCL, fun h'' hs'' => fin D h'' _ (F₂.change hs'' hCL hC₀) (fun p hp => ?_) o1⟩
    have z : h₂.get? p.1 = some p.2 := hs₂.extBut _ _ (N' p hp).2.1 (N' p hp).1
    refine ⟨hs''.extBut _ _ ?_ z, (N' p hp).2⟩
    rcases List.mem_cons.mp hp with rfl | hp
    · exact Ne.symm hCD
    · exact offC p hp
theorem SrcTup.of {elt : Expr} {x : Str} {scope : Scope} {cl : List (Str × Addr)} {Fin : Shared → List Value → List (Addr × Obj) → Prop} {ax : Addr} {vs : List Value} {news : List (Addr × Obj)} {s₁ : Shared}
    (hh : A.handled = none) (F : Fr h₀ L s₁.heap m) (N : News h₀ L s₁.heap news) (hm : (ax, tupO vs) ∈ news) (hz : vs.length ≤ 1000)
    (h : ∀ g, LCg.CompRest prog w A h₀ L m env elt x scope cl { s₁ with heap := g } (fun nw => (ax, tupO vs) ∈ nw) (fun i v => vs[i]? = some v) (Fin { s₁ with heap := g }) vs.length 0 [] news) :
    SrcTup prog w A h₀ L m env elt x scope cl Fin (.ref ax) s₁ := ⟨ax, vs, news, hh, F, N, hm, hz, h⟩
end
end Mine
end
section
open PySem PySem.Calls PySem.W PyProof.Rows
namespace Mine
theorem seti_slot_next : Slot "set_iterator" "__next__" "set_iterator.__next__" :=
  .of (owner := "set_iterator") (n := "__next__") (by rw [typeLookup_type, builtinLookup_eq_fast]; kernel_rfl) (by decide +kernel) (by decide +kernel) (by decide +kernel)
    (by first | exact .inl (by decide +kernel) | exact .inr (by decide +kernel)) (by rw [isSubtype_type]; kernel_rfl)
theorem seti_entry_next : entryFor table "set_iterator.__next__" = some Builtin.«set_iterator.__next__» := entryFor_of_tree (by kernel_rfl)
theorem seti_args_next (a : Value) : argsOk "set_iterator.__next__" ⟨[a], []⟩ := by unfold argsOk; kernel_rfl
theorem set_entry_iter : entryFor table "set.__iter__" = some Builtin.«frozenset.__iter__» :=
  entryFor_alias (id' := "frozenset.__iter__") (by kernel_rfl) (by first | rfl | decide +kernel | (unfold String.splitOn; simp +decide [String.splitOnAux])) (by decide +kernel) (by kernel_rfl)
noncomputable def setIt (a : Addr) (slot i ep : Nat) : Obj := { cls := .type "set_iterator", data := .fields #[rawInt slot, rawInt i, .ref a, rawInt 1, rawInt ep] }
section
variable {prog : Program} {w : World} {A : Around} {E : Value → Shared → Prop} {s : Shared}
theorem iter_set {a : Addr} {led : Bool} {ep : Nat} {Q : Value → Shared → Prop} (ho : s.heap.get? a = some (setO1 led ep))
    (h : Q (.ref s.heap.objs.size) { s with heap := s.heap.push (setIt a 0 0 ep) }) : wpAny (model prog w) A (pyIter (.ref a)) Q E s := by
  have hT : s.TypeIs (.ref a) "set" := ⟨_, ho, rfl⟩
  refine wpAny_pyIter_slot hT PySem.F.slot_set_iter (wpAny_call_entry PySem.F.slot_set_iter hT set_entry_iter ?_ (PySem.F.args_set_iter_1 _))
  unfold Builtin.«frozenset.__iter__» Builtin.Frozenset.slot0 Builtin.Frozenset.addrOf
  refine wpAny_bind (wpAny_pure ?_)
  dsimp only
  unfold Builtin.Frozenset.sizeOf
  refine wpAny_bind (wpAny_bind (wpAny_setEntries_of ho rfl (fits_true led) (wpAny_pure ?_)))
  unfold setDrawn setsByText
  refine wpAny_bind (wpAny_bind (wpAny_setState_of ho rfl (fits_true led) (wpAny_bind (wpAny_bind (wpAny_askSetting (wpAny_pure ?_))))))
  dsimp only
  refine wpAny_pure ?_
  rw [if_neg (by cases (model prog w).w.params.followText "set-order" <;> exact Bool.false_ne_true)]
  refine wpAny_bind (wpAny_pure ?_)
  refine wpAny_bind (wpAny_setEpoch_of ho rfl (fits_true led) ?_)
  refine wpAny_bind (m := newFields _ _) (wpAny_newObj_type ?_)
  refine wpAny_pure ⟨_, rfl, "set_iterator", _, ⟨_, Heap.get?_push_size _ rfl, rfl⟩, seti_slot_next.lookup, ?_⟩
  exact h
theorem pick_one {α : Type} (next : Nat → Nat) (x : α) : pickOrder next #[x] = #[x] := by
  unfold pickOrder
  show pickOrder.go next 1 0 [x] #[] = #[x]
  unfold pickOrder.go
  have e : next 0 % [x].length = 0 := Nat.mod_one _
  rw [e]
  rfl
theorem setWalk_one {a : Addr} {ep : Nat} {Q : Array (Int × Value) → Shared → Prop} (hb : byText w = true) (ho : s.heap.get? a = some (setO1 (!byText w) ep)) (h : Q #[(1, .bool true)] s) :
    wpAny (model prog w) A (setWalk a) Q E s := by
  unfold setWalk setsByText
  refine wpAny_bind (wpAny_setState_of ho rfl (fits_true _) ?_)
  dsimp only
  refine wpAny_bind (wpAny_bind (wpAny_askSetting (wpAny_pure ?_)))
  show wpAny _ _ (if byText w = true then _ else _) _ _ _
  rw [hb, if_pos rfl]
  refine wpAny_bind (wpAny_askSetting ?_)
  rw [pick_one]
  exact wpAny_pure h
theorem setNext_first {a : Addr} {ep : Nat} {Q : Option (Value × Nat) → Shared → Prop} (ho : s.heap.get? a = some (setO1 (!byText w) ep)) (h : ∀ k, (byText w = false → k = 2) → Q (some (.bool true, k)) s) :
    wpAny (model prog w) A (setNext a 0 0 ep) Q E s := by
  have ho' := ho
  unfold setNext setsByText
  refine wpAny_bind (wpAny_setState_of ho rfl (fits_true _) ?_)
  dsimp only
  refine wpAny_bind (wpAny_bind (wpAny_askSetting (wpAny_pure ?_)))
  show wpAny _ _ (if byText w = true then _ else _) _ _ _
  cases hb : byText w with
  | true =>
    rw [if_pos rfl, if_neg (by simp)]
    refine wpAny_bind (setWalk_one hb ho' ?_)
    exact wpAny_pure (h 0 fun e => by rw [hb] at e; cases e)
  | false =>
    rw [if_neg Bool.false_ne_true]
    exact wpAny_of_eq (a := some (.bool true, 2)) rfl (h 2 fun _ => rfl)
theorem setNext_second {a : Addr} {ep k : Nat} {Q : Option (Value × Nat) → Shared → Prop} (ho : s.heap.get? a = some (setO1 (!byText w) ep)) (hk : byText w = false → k = 2) (h : Q none s) :
    wpAny (model prog w) A (setNext a k 1 ep) Q E s := by
  have ho' := ho
  unfold setNext setsByText
  refine wpAny_bind (wpAny_setState_of ho rfl (fits_true _) ?_)
  dsimp only
  refine wpAny_bind (wpAny_bind (wpAny_askSetting (wpAny_pure ?_)))
  show wpAny _ _ (if byText w = true then _ else _) _ _ _
  cases hb : byText w with
  | true =>
    rw [if_pos rfl, if_neg (by simp)]
    refine wpAny_bind (setWalk_one hb ho' ?_)
    exact wpAny_pure h
  | false =>
    rw [if_neg Bool.false_ne_true]
    obtain rfl := hk hb
    exact wpAny_of_eq (a := none) rfl h
end
end Mine
end
section
open PySem PySem.Calls PySem.W PyProof.Rows
namespace Mine
section
variable {prog : Program} {w : World} {A : Around} {E : Value → Shared → Prop} {s : Shared}
theorem next_set_item {I a : Addr} {ep : Nat} {Q : Option Value → Shared → Prop} (hne : a ≠ I) (hI : s.heap.get? I = some (setIt a 0 0 ep)) (ho : s.heap.get? a = some (setO1 (!byText w) ep))
    (h : ∀ h' k, (byText w = false → k = 2) → Heap.SameBut I s.heap h' → h'.get? I = some (setIt a k 1 ep) → Q (some (.bool true)) { s with heap := h' }) : wpAny (model prog w) A (pyNext (.ref I)) Q E s := by
  have hT : s.TypeIs (.ref I) "set_iterator" := ⟨_, hI, rfl⟩
  unfold pyNext
  refine wpAny_bind (wpAny_attempt ?_)
  refine wpAny_callSpecial?_slot (name := Str.ofString "__next__") hT seti_slot_next (wpAny_call_entry seti_slot_next hT seti_entry_next ?_ (seti_args_next _))
  unfold Builtin.«set_iterator.__next__»
  refine wpAny_bind (m := slotArgs _ _ _) (wpAny_of_eq (a := (Value.ref I, [])) (by first | rfl | kernel_rfl) ?_)
  (try dsimp only)
  refine wpAny_bind (m := fieldsOf (.ref I)) ?_
  show wpAny _ _ (load I >>= _) _ _ _
  refine wpAny_bind (wpAny_load hI (wpAny_pure ?_))
  (try dsimp only)
  refine wpAny_bind (wpAny_setEntries_of ho rfl (fits_true _) ?_)
  rw [if_neg (by decide)]
  (try dsimp only)
  refine wpAny_bind (setNext_first ho fun k hk => ?_)
  (try dsimp only)
  have g1 := Heap.get?_update_self (Obj.mapFields (·.setIfInBounds 0 (rawInt k))) hI rfl
  have s1 := Heap.SameBut.update s.heap I (Obj.mapFields (·.setIfInBounds 0 (rawInt k)))
  refine wpAny_bind (wpAny_setField hI rfl (by simp) ?_)
  have g2 := Heap.get?_update_self (Obj.mapFields (·.setIfInBounds 1 (rawInt 1))) g1 rfl
  have s2 := Heap.SameBut.update (s.heap.update I (Obj.mapFields (·.setIfInBounds 0 (rawInt k)))) I (Obj.mapFields (·.setIfInBounds 1 (rawInt 1)))
  refine wpAny_bind (wpAny_setField g1 rfl (by simp) ?_)
  exact wpAny_pure ⟨_, rfl, wpAny_pure (h _ k hk (s1.trans s2) g2)⟩
theorem next_set_end {I a : Addr} {ep k : Nat} {Q : Option Value → Shared → Prop} (hh : A.handled = none) (hk : byText w = false → k = 2) (hI : s.heap.get? I = some (setIt a k 1 ep)) (ho : s.heap.get? a = some (setO1 (!byText w) ep))
    (h : ∀ h', Heap.ExtBut I s.heap h' → Q none { s with heap := h' }) : wpAny (model prog w) A (pyNext (.ref I)) Q E s := by
  have hT : s.TypeIs (.ref I) "set_iterator" := ⟨_, hI, rfl⟩
  unfold pyNext
  refine wpAny_bind (wpAny_attempt ?_)
  refine wpAny_callSpecial?_slot (name := Str.ofString "__next__") hT seti_slot_next (wpAny_call_entry seti_slot_next hT seti_entry_next ?_ (seti_args_next _))
  unfold Builtin.«set_iterator.__next__»
  refine wpAny_bind (m := slotArgs _ _ _) (wpAny_of_eq (a := (Value.ref I, [])) (by first | rfl | kernel_rfl) ?_)
  (try dsimp only)
  refine wpAny_bind (m := fieldsOf (.ref I)) ?_
  show wpAny _ _ (load I >>= _) _ _ _
  refine wpAny_bind (wpAny_load hI (wpAny_pure ?_))
  (try dsimp only)
  refine wpAny_bind (wpAny_setEntries_of ho rfl (fits_true _) ?_)
  rw [if_neg (by decide)]
  (try dsimp only)
  refine wpAny_bind (setNext_second ho hk ?_)
  (try dsimp only)
  refine wpAny_bind (wpAny_setField hI rfl (by simp) ?_)
  show wpAny _ _ (newExc (.type "StopIteration") [] >>= _) _ _ _
  refine wpAny_bind ?_
  delta newExc newTuple
  try dsimp only
  refine wpAny_bind (wpAny_newObj_type ?_ (by size_fits))
  refine wpAny_bind (m := firstArgMember _ _) (wpAny_of_eq (a := Value.none) (by first | rfl | (delta firstArgMember; rfl)) ?_)
  refine wpAny_newObj_type ?_ (by size_fits)
  delta raiseNew
  try dsimp only
  refine wpAny_bind (wpAny_handled ?_)
  first | rw [show A.in1.handled = none from hh] | rw [hh]
  refine wpAny_bind (wpAny_pure (wpAny_throw ?_))
  refine wpAny_bind (wpAny_isInstance (T := "StopIteration") (b := true) ⟨_, Heap.get?_push_size _ rfl, rfl⟩ isSubtype_stop ?_)
  exact wpAny_pure (h _ (((Heap.SameBut.update ..).extBut.push _).push _))
theorem unpack_set {a L : Addr} {h₀ : Heap} {m : Str → Option Value} {news : List (Addr × Obj)} {ep : Nat} {Q : List Value → Shared → Prop} (hh : A.handled = none) (F : Fr h₀ L s.heap m) (N : News h₀ L s.heap news) (hm : (a, setO1 (!byText w) ep) ∈ news)
    (h : ∀ h', Fr h₀ L h' m → News h₀ L h' news → Q [.bool true] { s with heap := h' }) : wpAny (model prog w) A (unpackItems (.ref a) 1 none) Q E s := by
  have ho := (N _ hm).1
  have hT : s.TypeIs (.ref a) "set" := ⟨_, ho, rfl⟩
  have hne : a ≠ s.heap.objs.size := Nat.ne_of_lt (Heap.lt_size ho)
  unfold unpackItems
  refine wpAny_bind ?_
  unfold notIterableAtAll
  refine wpAny_bind (wpAny_specialOf hT PySem.F.slot_set_iter.lookup ?_)
  refine wpAny_pure ?_
  rw [if_neg Bool.false_ne_true]
  refine wpAny_bind (wpAny_holding (iter_set ho ?_))
  have F1 := F.push (setIt a 0 0 ep)
  have N1 := News.push F N (setIt a 0 0 ep) rfl
  refine wpAny_bind (wpAny_holding ?_)
  show wpAny _ _ (pyNext (.ref s.heap.objs.size) >>= _) _ _ _
  refine wpAny_bind (next_set_item hne (N1 _ (.head _)).1 (N1 _ (.tail _ hm)).1 fun h1 k hk s1 g1 => ?_)
  show wpAny _ _ (holding [Value.bool true] (pure []) >>= _) _ _ _
  refine wpAny_bind (wpAny_holding (wpAny_pure (wpAny_pure ?_)))
  rw [if_neg (by decide)]
  have F2 := F1.change s1 (N1 _ (.head _)).2.1 (N1 _ (.head _)).2.2
  have off : ∀ p ∈ news, p.1 ≠ s.heap.objs.size := fun p hp => Nat.ne_of_lt (Heap.lt_size (N p hp).1)
  have N2 : News h₀ L h1 news := fun p hp => ⟨(s1.2 _ (off p hp)).trans (N1 _ (.tail _ hp)).1, (N1 _ (.tail _ hp)).2⟩
  refine wpAny_bind (wpAny_holding (next_set_end hh hk g1 (N2 _ hm).1 fun h2 e2 => ?_))
  rw [if_neg (show ¬ (none : Option Value).isSome = true from Bool.false_ne_true)]
  have hI1 := N1 _ (.head _)
  refine wpAny_pure (h h2 ?_ fun p hp => ⟨e2 _ _ (off p hp) (N2 p hp).1, (N2 p hp).2⟩)
  obtain ⟨oL, es, epp, hLL, r⟩ := F2.ns
  exact ⟨⟨oL, es, epp, e2 _ _ (Ne.symm hI1.2.1) hLL, r⟩, fun b o e' => e2 b o (fun q => by rw [q, hI1.2.2] at e'; cases e') (F2.keep b o e'), F2.above⟩
end
end Mine
end
section
open PySem PySem.Calls PySem.W PyProof.Rows
namespace Mine
section
variable {prog : Program} {w : World} {A : Around} {E : Value → Shared → Prop} {s : Shared} {env : Env}
theorem Try_no {body : List Stmt} {h₀ : ExceptHandler} {hs : List ExceptHandler} {pos : Pos} {Q : Flow → Shared → Prop} (h : wpAny (model prog w) A (execs body env) Q NoE' s) :
    wpAny (model prog w) A (exec (.Try body (h₀ :: hs) [] [] pos) env) Q E s :=
  wpAny_Try_except (wpAny_mono h (fun f s₁ hq => by
    cases f with
    | next => exact wpAny_execs_nil hq
    | _ => exact hq) fun _ _ e => e.elim)
theorem Assign_one {x : Str} {px tpos pos : Pos} {k : Nat} {value : Expr} {Q : Flow → Shared → Prop}
    (h : wpAny (model prog w) A (eval value env) (fun v s₁ => wpAny (model prog w) A (unpackItems v 1 none) (fun items s₂ =>
      ∃ y, items = [y] ∧ wpAny (model prog w) A (storeName env x y) (fun _ s₃ => Q .next s₃) E s₂) E s₁) E s)
    (hs : swapsWithSole [.Tuple [.Name x px] k tpos] value pos.line env = pure false := by rfl)
    (hw : swappedStores [.Tuple [.Name x px] k tpos] value env = pure none := by rfl) :
    wpAny (model prog w) A (exec (.Assign [.Tuple [.Name x px] k tpos] value pos) env) Q E s := by
  rw [exec_Assign]
  refine wpAny_bind (wpAny_standAt ?_)
  rw [hs]
  refine wpAny_bind (wpAny_pure ?_)
  rw [if_neg (by decide)]
  refine wpAny_bind (wpAny_mono h (fun v s₁ h₁ => ?_) fun _ _ x => x)
  rw [hw]
  refine wpAny_bind (wpAny_pure ?_)
  show wpAny _ A (do assignAll v [assign (.Tuple [.Name x px] k tpos) env]; pure .next) Q E s₁
  refine wpAny_bind ?_
  show wpAny _ A (standAt tpos >>= fun _ => unpack v (assignEach [.Name x px] env)) _ E s₁
  refine wpAny_bind (wpAny_standAt ?_)
  unfold unpack
  refine wpAny_bind (wpAny_holding ?_)
  show wpAny _ A (unpackItems v 1 none) _ E s₁
  refine wpAny_mono h₁ (fun items s₂ h₂ => ?_) fun _ _ x => x
  obtain ⟨y, rfl, h₂⟩ := h₂
  show wpAny _ A (holding [] (assign (.Name x px) env y) >>= fun _ => pure ()) _ E s₂
  refine wpAny_bind (wpAny_holding (wpAny_assign_Name (wpAny_mono h₂ (fun _ s₃ h₃ => ?_) fun _ _ x => x)))
  exact wpAny_pure (wpAny_pure h₃)
end
end Mine
end
section
open PySem PySem.Calls PySem.W PyProof.Rows
namespace Mine
theorem rowsIn_snoc {tl tl' : List (Addr × Obj)} {ys : List Value} {rs : List (List Str)} {a : Addr} {us : List Value} {k : Nat} {r : List Str} (h : RowsIn tl ys rs) (hs : ∀ p ∈ tl, p ∈ tl') (hm : (a, listOf us.toArray k) ∈ tl') (hr : StrsAre us r) :
    RowsIn tl' (ys ++ [.ref a]) (rs ++ [r]) := by
  refine ⟨by rw [List.length_append, List.length_append, h.1]; rfl, fun i q hq => ?_⟩
  rcases Nat.lt_trichotomy i rs.length with hlt | heq | hgt
  · rw [List.getElem?_append_left hlt] at hq
    obtain ⟨b, ws, k', h1, h2, h3⟩ := h.2 i q hq
    exact ⟨b, ws, k', by rw [List.getElem?_append_left (by rw [h.1]; exact hlt)]; exact h1, hs _ h2, h3⟩
  · rw [List.getElem?_append_right (by (exact Ar.go [_, _] [(.V 0, .V 1, 1)] 1 (.V 0) (.V 1) rfl (Nat.le_of_eq heq.symm))), heq, Nat.sub_self] at hq
    obtain rfl : r = q := by simpa using hq
    refine ⟨a, us, k, ?_, hm, hr⟩
    rw [List.getElem?_append_right (by rw [h.1]; (exact Ar.go [_, _] [(.V 0, .V 1, 1)] 1 (.V 0) (.V 1) rfl (Nat.le_of_eq heq.symm))), h.1, heq, Nat.sub_self]
    rfl
  · rw [List.getElem?_eq_none (by rw [List.length_append]; simp; (exact Ar.go [_, _] [(.P (.V 0) (.N 1), .V 1, 1)] 1 (.P (.V 0) (.N 1)) (.V 1) rfl hgt))] at hq
    cases hq
theorem rowsIn_nil {tl : List (Addr × Obj)} : RowsIn tl [] [] := ⟨rfl, fun j r h => by simp at h⟩
theorem rowsIn_at {h₀ h : Heap} {L : Addr} {tl : List (Addr × Obj)} {vs : List Value} {rs : List (List Str)} (H : RowsIn tl vs rs) (N : News h₀ L h tl) : RowsAt h vs rs := ⟨H.1, fun i r hr => by
  obtain ⟨a, us, k, h1, h2, h3⟩ := H.2 i r hr
  exact ⟨a, h1, us, k, (N _ h2).1, h3⟩⟩
theorem off3_new {I C D a : Addr} {oI oC oD : Obj} {nw nw' : List (Addr × Obj)} (hlt : ∀ p ∈ (I, oI) :: (C, oC) :: (D, oD) :: nw, p.1 < a) (off : LCg.Off3 I C D nw) (hs : ∀ p ∈ nw', p.1 = a ∨ p ∈ nw) : LCg.Off3 I C D nw' := LCg.Off3.of fun p hp => by
  rcases hs p hp with e | e
  · rw [e]
    exact ⟨Nat.ne_of_gt (hlt _ (.head _)), Nat.ne_of_gt (hlt _ (.tail _ (.head _))), Nat.ne_of_gt (hlt _ (.tail _ (.tail _ (.head _))))⟩
  · exact off.mem p e
end Mine
end
section
open PySem PySem.Calls PySem.W PyProof.Rows
namespace Mine
section
variable {prog : Program} {w : World} {A : Around} {R : Result → Shared → Prop} {I : Addr} {fp wr : List Addr} {n : Nat} {P : Nat → Value → Prop} {St : Nat → Heap → Prop}

theorem minm_loop (H : Heap) (W : Walks prog w A.in1 I fp wr n P St) (bt : Nat → Nat → Bool) (hcmp : ∀ i j vi vj (s : Shared) (Q : Value → Shared → Prop) (E : Value → Shared → Prop), (∀ b o, H.get? b = some o → s.heap.get? b = some o) → P i vi → P j vj → Q (.bool (bt i j)) s → wpAny (model prog w) A.in1 (richCompare .Lt vi vj) Q E s)
    (S : Addr) (hSf : S ∉ fp) (hS0 : H.get? S = none) (hwr : ∀ b ∈ wr, H.get? b = none) :
    ∀ (k j : Nat) (s : Shared) (vb : Value) (c : Nat), n - (j + 1) = k → j + 1 ≤ n → St (j + 1) s.heap → (∀ b o, H.get? b = some o → s.heap.get? b = some o) → P (argBest bt j) vb →
    s.heap.get? S = some { cls := .type "list", dict := none, data := .seq #[vb, vb] c, slots := #[] } →
    (∀ v h' tk, P (argBest bt (n - 1)) v → (∀ b o, H.get? b = some o → h'.get? b = some o) → R (.ok (.ret v)) { s with heap := h', toks := tk }) →
    codeAny (model prog w) A (.builtin "min.loop" ⟨[.ref I, .none, .ref S], []⟩) R s := by
  have hSw : S ∉ wr := fun h => hSf (W.sub _ h)
  have hname : (toString "min" ++ toString ".loop" : String) = "min.loop" := by decide
  have notW : ∀ b o, H.get? b = some o → b ∉ wr := fun b o e hb => by rw [hwr b hb] at e; cases e
  have notS : ∀ b o, H.get? b = some o → b ≠ S := fun b o e hb => by rw [hb, hS0] at e; cases e
  intro k
  induction k with
  | zero =>
    intro j s vb c hk hj hst hH hPb hS hR
    have hin : j + 1 = n := by omega
    refine codeAny_builtin PySem.F.entry_min_loop ?_
    rw [Around.under_plainId PySem.F.plain_min_loop _]
    show wpAny _ A.in1 (seqItems? (.ref S) >>= _) _ _ s
    refine wpAny_bind (wpAny_seqItems hS rfl ?_)
    show wpAny _ A.in1 (tryCatch (pyNext (.ref I)) _ >>= _) _ _ s
    refine wpAny_bind (wpAny_tryCatch (W.done s _ _ (hin ▸ hst) fun h' tk hk' => ?_))
    have hS' := hk' S _ hSw hS
    show wpAny _ A.in1 (updateSeq S (fun _ => #[]) >>= _) _ _ _
    refine wpAny_bind ?_
    refine wpAny_updateSeq hS' rfl (wpAny_bind (wpAny_letGo (wpAny_pure ?_)))
    refine hR vb _ tk (by rw [← hin]; exact hPb) fun b o e => (Heap.get?_update_other _ _ (Ne.symm (notS b o e))).trans (hk' b o (notW b o e) (hH b o e))
  | succ k ih =>
    intro j s vb c hk hj hst hH hPb hS hR
    have hlt : j + 1 < n := by omega
    refine codeAny_builtin PySem.F.entry_min_loop ?_
    rw [Around.under_plainId PySem.F.plain_min_loop _]
    show wpAny _ A.in1 (seqItems? (.ref S) >>= _) _ _ s
    refine wpAny_bind (wpAny_seqItems hS rfl ?_)
    show wpAny _ A.in1 (tryCatch (pyNext (.ref I)) _ >>= _) _ _ s
    refine wpAny_bind (wpAny_tryCatch (W.item (j + 1) s _ _ hlt hst fun v h' tk hP hst' hk' => ?_))
    have hS' := hk' S _ hSw hS
    have hH' : ∀ b o, H.get? b = some o → h'.get? b = some o := fun b o e => hk' b o (notW b o e) (hH b o e)
    show wpAny _ A.in1 (tryCatch (holding [v, v] (richCompare .Lt v vb >>= _)) _ >>= _) _ _ _
    refine wpAny_bind (wpAny_tryCatch (wpAny_holding (wpAny_bind (hcmp (j + 1) (argBest bt j) v vb _ _ _ hH' hP hPb ?_))))
    refine wpAny_bind (wpAny_holding (wpAny_truthy_bool ?_))
    refine wpAny_bind (wpAny_letGo (wpAny_pure ?_))
    cases hb : bt (j + 1) (argBest bt j) with
    | true =>
      rw [if_pos rfl]
      refine wpAny_bind ?_
      refine wpAny_updateSeq hS' rfl (wpAny_bind (wpAny_letGo ?_))
      rw [hname]
      refine wpAny_pure ⟨plainId_quiet PySem.F.plain_min_loop _, ih (j + 1) _ v _ (by omega) hlt (W.frame _ _ _ hst' fun b hbf o e => ?_) (fun b o e => (Heap.get?_update_other _ _ (Ne.symm (notS b o e))).trans (hH' b o e)) (by simp only [argBest, hb, if_true]; exact hP) (Heap.get?_update_self _ hS' rfl)
        fun v' h'' tk'' hP' hk'' => ?_⟩
      · exact (Heap.get?_update_other _ _ (fun h : S = b => hSf (by rw [h]; exact hbf))).trans e
      · exact hR v' h'' tk'' hP' hk''
    | false =>
      rw [if_neg Bool.false_ne_true]
      refine wpAny_bind (wpAny_letGo ?_)
      rw [hname]
      refine wpAny_pure ⟨plainId_quiet PySem.F.plain_min_loop _, ih (j + 1) _ vb c (by omega) hlt hst' hH' (by simp only [argBest, hb, Bool.false_eq_true, if_false]; exact hPb) hS' fun v' h'' tk'' hP' hk'' => ?_⟩
      exact hR v' h'' tk'' hP' hk''
theorem minm_first (H : Heap) (W : Walks prog w A.in1 I fp wr n P St) (bt : Nat → Nat → Bool) (hcmp : ∀ i j vi vj (s : Shared) (Q : Value → Shared → Prop) (E : Value → Shared → Prop), (∀ b o, H.get? b = some o → s.heap.get? b = some o) → P i vi → P j vj → Q (.bool (bt i j)) s → wpAny (model prog w) A.in1 (richCompare .Lt vi vj) Q E s)
    (S : Addr) (hSf : S ∉ fp) (hS0 : H.get? S = none) (hwr : ∀ b ∈ wr, H.get? b = none) (hn : 0 < n) {s : Shared} {c : Nat} (hst : St 0 s.heap) (hH : ∀ b o, H.get? b = some o → s.heap.get? b = some o)
    (hS : s.heap.get? S = some { cls := .type "list", dict := none, data := .seq #[] c, slots := #[] })
    (hR : ∀ v h' tk, P (argBest bt (n - 1)) v → (∀ b o, H.get? b = some o → h'.get? b = some o) → R (.ok (.ret v)) { s with heap := h', toks := tk }) :
    codeAny (model prog w) A (.builtin "min.loop" ⟨[.ref I, .none, .ref S], []⟩) R s := by
  have hSw : S ∉ wr := fun h => hSf (W.sub _ h)
  have hname : (toString "min" ++ toString ".loop" : String) = "min.loop" := by decide
  have notW : ∀ b o, H.get? b = some o → b ∉ wr := fun b o e hb => by rw [hwr b hb] at e; cases e
  have notS : ∀ b o, H.get? b = some o → b ≠ S := fun b o e hb => by rw [hb, hS0] at e; cases e
  refine codeAny_builtin PySem.F.entry_min_loop ?_
  rw [Around.under_plainId PySem.F.plain_min_loop _]
  show wpAny _ A.in1 (seqItems? (.ref S) >>= _) _ _ s
  refine wpAny_bind (wpAny_seqItems hS rfl ?_)
  show wpAny _ A.in1 (tryCatch (pyNext (.ref I)) _ >>= _) _ _ s
  refine wpAny_bind (wpAny_tryCatch (W.item 0 s _ _ hn hst fun v h' tk hP hst' hk' => ?_))
  have hS' := hk' S _ hSw hS
  show wpAny _ A.in1 (updateSeq S (fun _ => #[v, v]) >>= _) _ _ _
  refine wpAny_bind ?_
  refine wpAny_updateSeq hS' rfl ?_
  rw [hname]
  refine wpAny_pure ⟨plainId_quiet PySem.F.plain_min_loop _, minm_loop H W bt hcmp S hSf hS0 hwr _ 0 _ v _ rfl hn (W.frame _ _ _ hst' fun b hbf o e => ?_) (fun b o e => (Heap.get?_update_other _ _ (Ne.symm (notS b o e))).trans (hk' b o (notW b o e) (hH b o e))) hP (Heap.get?_update_self _ hS' rfl) fun v' h'' tk'' hP' hk'' => ?_⟩
  · exact (Heap.get?_update_other _ _ (fun h : S = b => hSf (by rw [h]; exact hbf))).trans e
  · exact hR v' h'' tk'' hP' hk''
theorem minm_call {l : Addr} {vs : List Value} {E : Value → Shared → Prop} {s : Shared} {Q : Value → Shared → Prop} (hh : A.handled = none) (hl : s.heap.IsList l vs.toArray) (hn : 0 < vs.length) (bt : Nat → Nat → Bool)
    (hcmp : ∀ i j vi vj (s' : Shared) (Q : Value → Shared → Prop) (E : Value → Shared → Prop), (∀ b o, s.heap.get? b = some o → s'.heap.get? b = some o) → vs[i]? = some vi → vs[j]? = some vj → Q (.bool (bt i j)) s' → wpAny (model prog w) A.in1 (richCompare .Lt vi vj) Q E s')
    (h : ∀ v h' tk, vs[argBest bt (vs.length - 1)]? = some v → (∀ b o, s.heap.get? b = some o → h'.get? b = some o) → Q v { s with heap := h', toks := tk }) : wpAny (model prog w) A (call (.builtin "min") [.ref l]) Q E s := by
  have hname : (toString "min" ++ toString ".loop" : String) = "min.loop" := by decide
  have hlt : l < s.heap.objs.size := by obtain ⟨o, ho, _⟩ := hl; exact Heap.lt_size ho
  refine call_function_tree PySem.F.kind_min PySem.F.plain_min PySem.F.entry_min (PySem.F.args_min1 _) ?_
  show wpAny _ A.in1 (Builtin.Builtins.bindParams "min" ["key", "default"] 0 ⟨[], []⟩ >>= _) _ _ s
  refine wpAny_bind (wpAny_of_eq (show Builtin.Builtins.bindParams "min" ["key", "default"] 0 ⟨[], []⟩ = pure [none, none] from rfl) ?_)
  refine wpAny_bind (wpAny_pure ?_)
  refine wpAny_bind (wpAny_pyIter_list hl ?_)
  refine wpAny_bind (wpAny_newObj_type ?_)
  have W := Walks.list (prog := prog) (w := w) (A := A.in1) hh s.heap.objs.size l (Nat.ne_of_lt hlt) vs.toArray
  have fresh : ∀ b, s.heap.objs.size ≤ b → s.heap.get? b = none := fun b hb => Heap.get?_none_of_le hb
  have hS2 : (s.heap.push { cls := .type "list_iterator", data := .fields #[.ref l, .int 0 0] }).objs.size = s.heap.objs.size + 1 := Heap.size_push ..
  rw [hname]
  refine wpAny_pure ⟨plainId_quiet PySem.F.plain_min_loop _, minm_first s.heap W bt (fun i j vi vj s' Q E a b c d => hcmp i j vi vj s' Q E a (by simpa using b) (by simpa using c) d) _ ?_ (fresh _ (by rw [hS2]; exact Nat.le_succ _)) (fun b hb => ?_) (by simpa using hn) (W.frame 0 (s.heap.push { cls := .type "list_iterator", data := .fields #[.ref l, .int 0 0] }) _ ⟨⟨_, Heap.get?_push_size _ rfl, rfl, rfl⟩, hl.push _⟩ fun b _ o e => Heap.get?_push_of_some _ e) (fun b o e => Heap.get?_push_of_some _ (Heap.get?_push_of_some _ e)) (Heap.get?_push_size _ rfl) fun v h' tk hP hk => ?_⟩
  · intro hm
    rw [hS2] at hm
    rcases List.mem_cons.mp hm with e | hm
    · exact absurd e (Nat.ne_of_gt (Nat.lt_succ_self _))
    · exact absurd (List.mem_singleton.mp hm) (Nat.ne_of_gt (Nat.lt_succ_of_lt hlt))
  · rw [List.mem_singleton.mp hb]
    exact fresh _ (Nat.le_refl _)
  · exact h v h' tk (by simpa using hP) hk

theorem maxm_loop (H : Heap) (W : Walks prog w A.in1 I fp wr n P St) (bt : Nat → Nat → Bool) (hcmp : ∀ i j vi vj (s : Shared) (Q : Value → Shared → Prop) (E : Value → Shared → Prop), (∀ b o, H.get? b = some o → s.heap.get? b = some o) → P i vi → P j vj → Q (.bool (bt i j)) s → wpAny (model prog w) A.in1 (richCompare .Gt vi vj) Q E s)
    (S : Addr) (hSf : S ∉ fp) (hS0 : H.get? S = none) (hwr : ∀ b ∈ wr, H.get? b = none) :
    ∀ (k j : Nat) (s : Shared) (vb : Value) (c : Nat), n - (j + 1) = k → j + 1 ≤ n → St (j + 1) s.heap → (∀ b o, H.get? b = some o → s.heap.get? b = some o) → P (argBest bt j) vb →
    s.heap.get? S = some { cls := .type "list", dict := none, data := .seq #[vb, vb] c, slots := #[] } →
    (∀ v h' tk, P (argBest bt (n - 1)) v → (∀ b o, H.get? b = some o → h'.get? b = some o) → R (.ok (.ret v)) { s with heap := h', toks := tk }) →
    codeAny (model prog w) A (.builtin "max.loop" ⟨[.ref I, .none, .ref S], []⟩) R s := by
  have hSw : S ∉ wr := fun h => hSf (W.sub _ h)
  have hname : (toString "max" ++ toString ".loop" : String) = "max.loop" := by decide
  have notW : ∀ b o, H.get? b = some o → b ∉ wr := fun b o e hb => by rw [hwr b hb] at e; cases e
  have notS : ∀ b o, H.get? b = some o → b ≠ S := fun b o e hb => by rw [hb, hS0] at e; cases e
  intro k
  induction k with
  | zero =>
    intro j s vb c hk hj hst hH hPb hS hR
    have hin : j + 1 = n := by omega
    refine codeAny_builtin PySem.F.entry_max_loop ?_
    rw [Around.under_plainId PySem.F.plain_max_loop _]
    show wpAny _ A.in1 (seqItems? (.ref S) >>= _) _ _ s
    refine wpAny_bind (wpAny_seqItems hS rfl ?_)
    show wpAny _ A.in1 (tryCatch (pyNext (.ref I)) _ >>= _) _ _ s
    refine wpAny_bind (wpAny_tryCatch (W.done s _ _ (hin ▸ hst) fun h' tk hk' => ?_))
    have hS' := hk' S _ hSw hS
    show wpAny _ A.in1 (updateSeq S (fun _ => #[]) >>= _) _ _ _
    refine wpAny_bind ?_
    refine wpAny_updateSeq hS' rfl (wpAny_bind (wpAny_letGo (wpAny_pure ?_)))
    refine hR vb _ tk (by rw [← hin]; exact hPb) fun b o e => (Heap.get?_update_other _ _ (Ne.symm (notS b o e))).trans (hk' b o (notW b o e) (hH b o e))
  | succ k ih =>
    intro j s vb c hk hj hst hH hPb hS hR
    have hlt : j + 1 < n := by omega
    refine codeAny_builtin PySem.F.entry_max_loop ?_
    rw [Around.under_plainId PySem.F.plain_max_loop _]
    show wpAny _ A.in1 (seqItems? (.ref S) >>= _) _ _ s
    refine wpAny_bind (wpAny_seqItems hS rfl ?_)
    show wpAny _ A.in1 (tryCatch (pyNext (.ref I)) _ >>= _) _ _ s
    refine wpAny_bind (wpAny_tryCatch (W.item (j + 1) s _ _ hlt hst fun v h' tk hP hst' hk' => ?_))
    have hS' := hk' S _ hSw hS
    have hH' : ∀ b o, H.get? b = some o → h'.get? b = some o := fun b o e => hk' b o (notW b o e) (hH b o e)
    show wpAny _ A.in1 (tryCatch (holding [v, v] (richCompare .Gt v vb >>= _)) _ >>= _) _ _ _
    refine wpAny_bind (wpAny_tryCatch (wpAny_holding (wpAny_bind (hcmp (j + 1) (argBest bt j) v vb _ _ _ hH' hP hPb ?_))))
    refine wpAny_bind (wpAny_holding (wpAny_truthy_bool ?_))
    refine wpAny_bind (wpAny_letGo (wpAny_pure ?_))
    cases hb : bt (j + 1) (argBest bt j) with
    | true =>
      rw [if_pos rfl]
      refine wpAny_bind ?_
      refine wpAny_updateSeq hS' rfl (wpAny_bind (wpAny_letGo ?_))
      rw [hname]
      refine wpAny_pure ⟨plainId_quiet PySem.F.plain_max_loop _, ih (j + 1) _ v _ (by omega) hlt (W.frame _ _ _ hst' fun b hbf o e => ?_) (fun b o e => (Heap.get?_update_other _ _ (Ne.symm (notS b o e))).trans (hH' b o e)) (by simp only [argBest, hb, if_true]; exact hP) (Heap.get?_update_self _ hS' rfl)
        fun v' h'' tk'' hP' hk'' => ?_⟩
      · exact (Heap.get?_update_other _ _ (fun h : S = b => hSf (by rw [h]; exact hbf))).trans e
      · exact hR v' h'' tk'' hP' hk''
    | false =>
      rw [if_neg Bool.false_ne_true]
      refine wpAny_bind (wpAny_letGo ?_)
      rw [hname]
      refine wpAny_pure ⟨plainId_quiet PySem.F.plain_max_loop _, ih (j + 1) _ vb c (by omega) hlt hst' hH' (by simp only [argBest, hb, Bool.false_eq_true, if_false]; exact hPb) hS' fun v' h'' tk'' hP' hk'' => ?_⟩
      exact hR v' h'' tk'' hP' hk''
theorem maxm_first (H : Heap) (W : Walks prog w A.in1 I fp wr n P St) (bt : Nat → Nat → Bool) (hcmp : ∀ i j vi vj (s : Shared) (Q : Value → Shared → Prop) (E : Value → Shared → Prop), (∀ b o, H.get? b = some o → s.heap.get? b = some o) → P i vi → P j vj → Q (.bool (bt i j)) s → wpAny (model prog w) A.in1 (richCompare .Gt vi vj) Q E s)
    (S : Addr) (hSf : S ∉ fp) (hS0 : H.get? S = none) (hwr : ∀ b ∈ wr, H.get? b = none) (hn : 0 < n) {s : Shared} {c : Nat} (hst : St 0 s.heap) (hH : ∀ b o, H.get? b = some o → s.heap.get? b = some o)
    (hS : s.heap.get? S = some { cls := .type "list", dict := none, data := .seq #[] c, slots := #[] })
    (hR : ∀ v h' tk, P (argBest bt (n - 1)) v → (∀ b o, H.get? b = some o → h'.get? b = some o) → R (.ok (.ret v)) { s with heap := h', toks := tk }) :
    codeAny (model prog w) A (.builtin "max.loop" ⟨[.ref I, .none, .ref S], []⟩) R s := by
  have hSw : S ∉ wr := fun h => hSf (W.sub _ h)
  have hname : (toString "max" ++ toString ".loop" : String) = "max.loop" := by decide
  have notW : ∀ b o, H.get? b = some o → b ∉ wr := fun b o e hb => by rw [hwr b hb] at e; cases e
  have notS : ∀ b o, H.get? b = some o → b ≠ S := fun b o e hb => by rw [hb, hS0] at e; cases e
  refine codeAny_builtin PySem.F.entry_max_loop ?_
  rw [Around.under_plainId PySem.F.plain_max_loop _]
  show wpAny _ A.in1 (seqItems? (.ref S) >>= _) _ _ s
  refine wpAny_bind (wpAny_seqItems hS rfl ?_)
  show wpAny _ A.in1 (tryCatch (pyNext (.ref I)) _ >>= _) _ _ s
  refine wpAny_bind (wpAny_tryCatch (W.item 0 s _ _ hn hst fun v h' tk hP hst' hk' => ?_))
  have hS' := hk' S _ hSw hS
  show wpAny _ A.in1 (updateSeq S (fun _ => #[v, v]) >>= _) _ _ _
  refine wpAny_bind ?_
  refine wpAny_updateSeq hS' rfl ?_
  rw [hname]
  refine wpAny_pure ⟨plainId_quiet PySem.F.plain_max_loop _, maxm_loop H W bt hcmp S hSf hS0 hwr _ 0 _ v _ rfl hn (W.frame _ _ _ hst' fun b hbf o e => ?_) (fun b o e => (Heap.get?_update_other _ _ (Ne.symm (notS b o e))).trans (hk' b o (notW b o e) (hH b o e))) hP (Heap.get?_update_self _ hS' rfl) fun v' h'' tk'' hP' hk'' => ?_⟩
  · exact (Heap.get?_update_other _ _ (fun h : S = b => hSf (by rw [h]; exact hbf))).trans e
  · exact hR v' h'' tk'' hP' hk''
theorem maxm_call {l : Addr} {vs : List Value} {E : Value → Shared → Prop} {s : Shared} {Q : Value → Shared → Prop} (hh : A.handled = none) (hl : s.heap.IsList l vs.toArray) (hn : 0 < vs.length) (bt : Nat → Nat → Bool)
    (hcmp : ∀ i j vi vj (s' : Shared) (Q : Value → Shared → Prop) (E : Value → Shared → Prop), (∀ b o, s.heap.get? b = some o → s'.heap.get? b = some o) → vs[i]? = some vi → vs[j]? = some vj → Q (.bool (bt i j)) s' → wpAny (model prog w) A.in1 (richCompare .Gt vi vj) Q E s')
    (h : ∀ v h' tk, vs[argBest bt (vs.length - 1)]? = some v → (∀ b o, s.heap.get? b = some o → h'.get? b = some o) → Q v { s with heap := h', toks := tk }) : wpAny (model prog w) A (call (.builtin "max") [.ref l]) Q E s := by
  have hname : (toString "max" ++ toString ".loop" : String) = "max.loop" := by decide
  have hlt : l < s.heap.objs.size := by obtain ⟨o, ho, _⟩ := hl; exact Heap.lt_size ho
  refine call_function_tree PySem.F.kind_max PySem.F.plain_max PySem.F.entry_max (PySem.F.args_max1 _) ?_
  show wpAny _ A.in1 (Builtin.Builtins.bindParams "max" ["key", "default"] 0 ⟨[], []⟩ >>= _) _ _ s
  refine wpAny_bind (wpAny_of_eq (show Builtin.Builtins.bindParams "max" ["key", "default"] 0 ⟨[], []⟩ = pure [none, none] from rfl) ?_)
  refine wpAny_bind (wpAny_pure ?_)
  refine wpAny_bind (wpAny_pyIter_list hl ?_)
  refine wpAny_bind (wpAny_newObj_type ?_)
  have W := Walks.list (prog := prog) (w := w) (A := A.in1) hh s.heap.objs.size l (Nat.ne_of_lt hlt) vs.toArray
  have fresh : ∀ b, s.heap.objs.size ≤ b → s.heap.get? b = none := fun b hb => Heap.get?_none_of_le hb
  have hS2 : (s.heap.push { cls := .type "list_iterator", data := .fields #[.ref l, .int 0 0] }).objs.size = s.heap.objs.size + 1 := Heap.size_push ..
  rw [hname]
  refine wpAny_pure ⟨plainId_quiet PySem.F.plain_max_loop _, maxm_first s.heap W bt (fun i j vi vj s' Q E a b c d => hcmp i j vi vj s' Q E a (by simpa using b) (by simpa using c) d) _ ?_ (fresh _ (by rw [hS2]; exact Nat.le_succ _)) (fun b hb => ?_) (by simpa using hn) (W.frame 0 (s.heap.push { cls := .type "list_iterator", data := .fields #[.ref l, .int 0 0] }) _ ⟨⟨_, Heap.get?_push_size _ rfl, rfl, rfl⟩, hl.push _⟩ fun b _ o e => Heap.get?_push_of_some _ e) (fun b o e => Heap.get?_push_of_some _ (Heap.get?_push_of_some _ e)) (Heap.get?_push_size _ rfl) fun v h' tk hP hk => ?_⟩
  · intro hm
    rw [hS2] at hm
    rcases List.mem_cons.mp hm with e | hm
    · exact absurd e (Nat.ne_of_gt (Nat.lt_succ_self _))
    · exact absurd (List.mem_singleton.mp hm) (Nat.ne_of_gt (Nat.lt_succ_of_lt hlt))
  · rw [List.mem_singleton.mp hb]
    exact fresh _ (Nat.le_refl _)
  · exact h v h' tk (by simpa using hP) hk

end
section
variable {prog : Program} {w : World} {A : Around} {E : Value → Shared → Prop} {s : Shared} {h₀ : Heap} {L l : Addr} {m : Str → Option Value} {news : List (Addr × Obj)} {vs : List Value} {rs : List (List Str)} {n : Nat} {Q : Value → Shared → Prop}
noncomputable def rowAtD (rs : List (List Str)) (i : Nat) : List Str := rs.getD i []
noncomputable def ltAt (rs : List (List Str)) (i j : Nat) : Bool := ltL (rowAtD rs i) (rowAtD rs j)
noncomputable def gtAt (rs : List (List Str)) (i j : Nat) : Bool := gtL (rowAtD rs i) (rowAtD rs j)
theorem rowAtD_of {i : Nat} {r : List Str} (h : rs[i]? = some r) : rowAtD rs i = r := by unfold rowAtD; rw [List.getD_eq_getElem?_getD, h]; rfl
theorem row_is {i : Nat} {v : Value} {h : Heap} (H : RowsAt h vs rs) (hv : vs[i]? = some v) : ∃ a us k, v = .ref a ∧ h.get? a = some (listOf us.toArray k) ∧ StrsAre us (rowAtD rs i) := by
  have hi : i < vs.length := by
    rcases Nat.lt_or_ge i vs.length with h | h
    · exact h
    · rw [List.getElem?_eq_none h] at hv; cases hv
  obtain ⟨a, h1, us, k, h2, h3⟩ := H.2 i _ (List.getElem?_eq_getElem (by rw [← H.1]; exact hi))
  rw [h1] at hv
  exact ⟨a, us, k, (Option.some.inj hv).symm, h2, by rw [rowAtD_of (List.getElem?_eq_getElem (by rw [← H.1]; exact hi))]; exact h3⟩
theorem RowsAt.keep {h h' : Heap} (H : RowsAt h vs rs) (hk : ∀ b o, h.get? b = some o → h'.get? b = some o) : RowsAt h' vs rs := ⟨H.1, fun i r hr => by
  obtain ⟨a, h1, us, k, h2, h3⟩ := H.2 i r hr
  exact ⟨a, h1, us, k, hk _ _ h2, h3⟩⟩
theorem rich_lt {a b : Addr} {us ws : List Value} {k k' : Nat} {xs ys : List Str} (ha : s.heap.get? a = some (listOf us.toArray k)) (hb : s.heap.get? b = some (listOf ws.toArray k')) (hx : StrsAre us xs) (hy : StrsAre ws ys) (hu : A.units < cLine) (h : Q (.bool (ltL xs ys)) s) :
    wpAny (model prog w) A (richCompare .Lt (.ref a) (.ref b)) Q E s :=
  richCompare_meets_room (T := "list") ⟨_, ha, rfl⟩ ⟨_, hb, rfl⟩ PySem.F.slot_list_lt PySem.F.entry_list_lt (PySem.F.args_list_lt_2 _ _) (list_lt a b hx hy k k') ⟨ha, hb, by simp, h⟩ hu
theorem rich_gt {a b : Addr} {us ws : List Value} {k k' : Nat} {xs ys : List Str} (ha : s.heap.get? a = some (listOf us.toArray k)) (hb : s.heap.get? b = some (listOf ws.toArray k')) (hx : StrsAre us xs) (hy : StrsAre ws ys) (hu : A.units < cLine) (h : Q (.bool (gtL xs ys)) s) :
    wpAny (model prog w) A (richCompare .Gt (.ref a) (.ref b)) Q E s :=
  richCompare_meets_room (T := "list") ⟨_, ha, rfl⟩ ⟨_, hb, rfl⟩ PySem.F.slot_list_gt PySem.F.entry_list_gt (args_list_gt _ _) (list_gt a b hx hy k k') ⟨ha, hb, by simp, h⟩ hu
theorem min_rows (hh : A.handled = none) (hu : A.in1.units < cLine) (F : Fr h₀ L s.heap m) (N : News h₀ L s.heap news) (hl : (l, listOf vs.toArray n) ∈ news) (hr : RowsIn news vs rs) (h0 : 0 < rs.length)
    (h : ∀ a us k h' tk, (a, listOf us.toArray k) ∈ news → StrsAre us (rowAtD rs (argBest (ltAt rs) (rs.length - 1))) → Fr h₀ L h' m → News h₀ L h' news → Q (.ref a) { s with heap := h', toks := tk }) :
    wpAny (model prog w) A (call (.builtin "min") [.ref l]) Q E s := by
  have hR := rowsIn_at hr N
  refine minm_call hh (led_list N hl) (by rw [hr.1]; exact h0) (ltAt rs) (fun i j vi vj s' Q' E' hk h1 h2 hq => ?_) fun v h' tk hv hk => ?_
  · have hR' := hR.keep hk
    obtain ⟨a, us, k, rfl, e1, e2⟩ := row_is hR' h1
    obtain ⟨b, ws, k', rfl, e3, e4⟩ := row_is hR' h2
    exact rich_lt e1 e3 e2 e4 hu hq
  · have hi : argBest (ltAt rs) (vs.length - 1) < rs.length := by
      rcases Nat.lt_or_ge (argBest (ltAt rs) (vs.length - 1)) vs.length with h | h
      · rw [← hr.1]; exact h
      · rw [List.getElem?_eq_none h] at hv; cases hv
    obtain ⟨a, us, k, h1, h2, h3⟩ := hr.2 _ _ (List.getElem?_eq_getElem hi)
    rw [h1] at hv
    obtain rfl := Option.some.inj hv
    refine h a us k h' tk h2 ?_ (F.keeps hk) (N.grown hk)
    rw [← hr.1, rowAtD_of (List.getElem?_eq_getElem hi)]; exact h3
theorem max_rows (hh : A.handled = none) (hu : A.in1.units < cLine) (F : Fr h₀ L s.heap m) (N : News h₀ L s.heap news) (hl : (l, listOf vs.toArray n) ∈ news) (hr : RowsIn news vs rs) (h0 : 0 < rs.length)
    (h : ∀ a us k h' tk, (a, listOf us.toArray k) ∈ news → StrsAre us (rowAtD rs (argBest (gtAt rs) (rs.length - 1))) → Fr h₀ L h' m → News h₀ L h' news → Q (.ref a) { s with heap := h', toks := tk }) :
    wpAny (model prog w) A (call (.builtin "max") [.ref l]) Q E s := by
  have hR := rowsIn_at hr N
  refine maxm_call hh (led_list N hl) (by rw [hr.1]; exact h0) (gtAt rs) (fun i j vi vj s' Q' E' hk h1 h2 hq => ?_) fun v h' tk hv hk => ?_
  · have hR' := hR.keep hk
    obtain ⟨a, us, k, rfl, e1, e2⟩ := row_is hR' h1
    obtain ⟨b, ws, k', rfl, e3, e4⟩ := row_is hR' h2
    exact rich_gt e1 e3 e2 e4 hu hq
  · have hi : argBest (gtAt rs) (vs.length - 1) < rs.length := by
      rcases Nat.lt_or_ge (argBest (gtAt rs) (vs.length - 1)) vs.length with h | h
      · rw [← hr.1]; exact h
      · rw [List.getElem?_eq_none h] at hv; cases hv
    obtain ⟨a, us, k, h1, h2, h3⟩ := hr.2 _ _ (List.getElem?_eq_getElem hi)
    rw [h1] at hv
    obtain rfl := Option.some.inj hv
    refine h a us k h' tk h2 ?_ (F.keeps hk) (N.grown hk)
    rw [← hr.1, rowAtD_of (List.getElem?_eq_getElem hi)]; exact h3
end
end Mine
end
section
open PySem PySem.Calls PySem.W PyProof.Rows
namespace Mine
noncomputable def TurnE (h₀ : Heap) (L : Addr) (led : List (Addr × Obj)) (J : (Str → Option Value) → Prop) (R : Result → Shared → Prop) (s : Shared) (f : Flow) (s' : Shared) : Prop := match f with
  | .next | .cont => ∃ h' tk' m', s' = { s with heap := h', toks := tk' } ∧ Fr h₀ L h' m' ∧ News h₀ L h' led ∧ J m'
  | .brk => R (.ok .next) s'
  | .ret v => R (.ok (.ret v)) s'
theorem TurnE.next {h₀ h' : Heap} {L : Addr} {led led' : List (Addr × Obj)} {J : (Str → Option Value) → Prop} {R : Result → Shared → Prop} {s : Shared} {tk' : Nat} {m' : Str → Option Value}
    (F : Fr h₀ L h' m') (N : News h₀ L h' led') (hs : ∀ p ∈ led, p ∈ led') (hJ : J m') : TurnE h₀ L led J R s .next { s with heap := h', toks := tk' } := ⟨h', tk', m', rfl, F, fun p hp => N p (hs p hp), hJ⟩
theorem TurnE.brk {h₀ : Heap} {L : Addr} {led : List (Addr × Obj)} {J : (Str → Option Value) → Prop} {R : Result → Shared → Prop} {s s' : Shared} (h : R (.ok .next) s') : TurnE h₀ L led J R s .brk s' := h
section
variable {prog : Program} {w : World} {A : Around} {s : Shared} {env : Env} {h₀ : Heap}
theorem enumA {R : Result → Shared → Prop} {xi xc : Str} {pk pv pt : Pos} {x1 : Nat} {body : List Stmt} {E : Value → Shared → Prop} {l : Addr} {vs : List Value} {n : Nat} {m₀ : Str → Option Value} {news : List (Addr × Obj)} (J : Nat → (Str → Option Value) → Prop)
    (hh : A.handled = none) (hxi : env.kindOf xi = some .local) (hxc : env.kindOf xc = some .local) (hp : (env.scope.kind == .class || (env.scope.kind == .module && env.locals != env.globals)) = false)
    (hl : (l, listOf vs.toArray n) ∈ news) (F : Fr h₀ env.locals s.heap m₀) (N : News h₀ env.locals s.heap news) (h0 : J 0 m₀)
    (turn : ∀ i v t m₁ h tk own, vs[i]? = some v → J i m₁ → Fr h₀ env.locals h (fun y => if y = xc then some v else if y = xi then some (.int (i : Nat) t) else m₁ y) → News h₀ env.locals h (news ++ own) →
      wpAny (model prog w) A (execs body env) (TurnE h₀ env.locals (news ++ own) (J (i + 1)) R s) NoE' { s with heap := h, toks := tk })
    (done : ∀ m₁ h tk, J vs.length m₁ → Fr h₀ env.locals h m₁ → News h₀ env.locals h news → R (.ok .next) { s with heap := h, toks := tk }) :
    wpAny (model prog w) A (call (.type "enumerate") [.ref l]) (fun x s₁ => wpAny (model prog w) A (pyIter x) (fun it s₂ =>
      codeAny (model prog w) A (.forLoop (.Tuple [.Name xi pk, .Name xc pv] x1 pt) it body [] env) R s₂) E s₁) E s := by
  have hL := led_list N hl
  have hlt : l < s.heap.objs.size := Heap.lt_size (N _ hl).1
  refine call_enumerate_list hL fun h1 he hit hsz hk => ?_
  refine wpAny_pyIter_enum he ?_
  have W := WalksT.enumerate (prog := prog) (w := w) (A := A) hh (s.heap.objs.size + 1) s.heap.objs.size l (Nat.succ_ne_self _) (Nat.ne_of_lt (Nat.lt_succ_of_lt hlt)) (Nat.ne_of_lt hlt) vs.toArray
  have hLs : env.locals < s.heap.objs.size := F.ns.lt
  have fresh : ∀ b, s.heap.objs.size ≤ b → h₀.get? b = none := fun b hb => Heap.get?_none_of_le (Nat.le_trans F.above (Nat.le_trans (Nat.le_of_lt hLs) hb))
  have off : ∀ p ∈ news, p.1 ∉ [s.heap.objs.size + 1, s.heap.objs.size] := fun p hp hm => by
    have := Heap.lt_size (N p hp).1
    rcases List.mem_cons.mp hm with e | hm
    · rw [e] at this; exact absurd this (Nat.not_lt.mpr (Nat.le_succ _))
    · rw [List.mem_singleton.mp hm] at this; exact Nat.lt_irrefl _ this
  refine codeAny_forLoop_frT (s := { s with heap := h1 }) (P2 := fun i v0 v1 => ∃ t, v0 = .int (i : Nat) t ∧ vs[i]? = some v1) hh W (fun i vals ⟨t, x, h1, h2⟩ => ⟨_, _, h2, t, rfl, by simpa using h1⟩) hxi hxc hp ?_ (fun b hb => ?_) off
    ⟨⟨_, he⟩, hit, hL.at fun o e => hk _ _ e⟩ (F.keeps hk) (N.grown hk) (fun i m nx => nx = news ∧ J i m) ⟨rfl, h0⟩ ?_ ?_
  · intro hm
    rcases List.mem_cons.mp hm with e | hm
    · rw [e] at hLs; exact absurd hLs (Nat.not_lt.mpr (Nat.le_succ _))
    · rcases List.mem_cons.mp hm with e | hm
      · rw [e] at hLs; exact Nat.lt_irrefl _ hLs
      · exact (N _ hl).2.1 (List.mem_singleton.mp hm).symm
  · rcases List.mem_cons.mp hb with e | hb
    · rw [e]; exact fresh _ (Nat.le_succ _)
    · rw [List.mem_singleton.mp hb]; exact fresh _ (Nat.le_refl _)
  · rintro i v0 v1 m₁ nx s₁ own ⟨h, tk, rfl⟩ hi ⟨t, rfl, hv⟩ ⟨rfl, hJ⟩ _ hown F₁ N₁
    have N₂ : News h₀ env.locals h (nx ++ own) := fun p hp => N₁ p ((List.mem_append.mp hp).elim (fun h => List.mem_append.mpr (.inr h)) fun h => List.mem_append.mpr (.inl h))
    refine wpAny_mono (turn i v1 t m₁ h tk own hv hJ F₁ N₂) (fun f s₂ h₂ => ?_) fun _ _ e => e.elim
    have fin : (∃ h' tk' m', s₂ = { s with heap := h', toks := tk' } ∧ Fr h₀ env.locals h' m' ∧ News h₀ env.locals h' (nx ++ own) ∧ J (i + 1) m') → LoopStep2 h₀ env.locals own nx (fun m nx' => nx' = nx ∧ J (i + 1) m) { s with heap := h, toks := tk } .next s₂ := by
      rintro ⟨h', tk', m', rfl, F', N', hJ'⟩
      exact ⟨rfl, h', tk', m', nx, rfl, F', fun p hp => N' p ((List.mem_append.mp hp).elim (fun h => List.mem_append.mpr (.inr h)) fun h => List.mem_append.mpr (.inl h)), rfl, rfl, hJ'⟩
    cases f with
    | ret v => exact h₂
    | brk => exact h₂
    | next => exact fin h₂
    | cont => exact fin h₂
  · rintro h tk m' nx F' N' _ ⟨rfl, hJ⟩
    exact done m' h tk (by simpa using hJ) F' N'
theorem form2' {x y : Str} {v u : Value} {m₁ m₀ : Str → Option Value} (hm : ∀ z, z ≠ y → z ≠ x → m₁ z = m₀ z) : (fun z => if z = x then some v else if z = y then some u else m₁ z) = fun z => if z = x then some v else if z = y then some u else m₀ z := by
  funext z
  by_cases h1 : z = x
  · simp [h1]
  · by_cases h2 : z = y
    · simp [h2]
    · simp only [if_neg h1, if_neg h2]; exact hm z h2 h1
theorem enumN {R : Result → Shared → Prop} {xi xc : Str} {pk pv pt : Pos} {x1 : Nat} {body : List Stmt} {E : Value → Shared → Prop} {l : Addr} {vs : List Value} {n : Nat} {m₀ : Str → Option Value} {news : List (Addr × Obj)} (J : Nat → Prop)
    (hh : A.handled = none) (hxi : env.kindOf xi = some .local) (hxc : env.kindOf xc = some .local) (hp : (env.scope.kind == .class || (env.scope.kind == .module && env.locals != env.globals)) = false)
    (hl : (l, listOf vs.toArray n) ∈ news) (F : Fr h₀ env.locals s.heap m₀) (N : News h₀ env.locals s.heap news) (h0 : J 0)
    (turn : ∀ i v t h tk own, vs[i]? = some v → J i → Fr h₀ env.locals h (fun y => if y = xc then some v else if y = xi then some (.int (i : Nat) t) else m₀ y) → News h₀ env.locals h (news ++ own) →
      wpAny (model prog w) A (execs body env) (TurnE h₀ env.locals (news ++ own) (fun m' => (∀ z, z ≠ xi → z ≠ xc → m' z = m₀ z) ∧ J (i + 1)) R s) NoE' { s with heap := h, toks := tk })
    (done : ∀ u u' h tk, J vs.length → Fr h₀ env.locals h (fun y => if y = xc then u else if y = xi then u' else m₀ y) → News h₀ env.locals h news → R (.ok .next) { s with heap := h, toks := tk }) :
    wpAny (model prog w) A (call (.type "enumerate") [.ref l]) (fun x s₁ => wpAny (model prog w) A (pyIter x) (fun it s₂ =>
      codeAny (model prog w) A (.forLoop (.Tuple [.Name xi pk, .Name xc pv] x1 pt) it body [] env) R s₂) E s₁) E s := by
  refine enumA (fun i m => (∀ z, z ≠ xi → z ≠ xc → m z = m₀ z) ∧ J i) hh hxi hxc hp hl F N ⟨fun _ _ _ => rfl, h0⟩ ?_ ?_
  · rintro i v t m₁ h tk own hv ⟨hm, hJ⟩ F₁ N₁
    rw [form2' hm] at F₁
    exact turn i v t h tk own hv hJ F₁ N₁
  · rintro m₁ h tk ⟨hm, hJ⟩ F₁ N₁
    rw [form2 (x := xc) (y := xi) (fun z h1 h2 => hm z h2 h1)] at F₁
    exact done (m₁ xc) (m₁ xi) h tk hJ F₁ N₁
end
noncomputable def commonOf : List Str → List Str → List Str
  | x :: xs, y :: ys => if x == y then x :: commonOf xs ys else []
  | _, _ => []
theorem common_eq (x y : Str) (xs ys : List Str) : commonOf (x :: xs) (y :: ys) = if (x == y) = true then x :: commonOf xs ys else [] := rfl
theorem common_nil : ∀ b : List Str, commonOf [] b = []
  | [] => rfl
  | _ :: _ => rfl
theorem commonOf_all : ∀ (xs ys : List Str), xs = ys.take xs.length → commonOf xs ys = xs
  | [], _, _ => rfl
  | x :: xs, [], h => by simp at h
  | x :: xs, y :: ys, h => by
    rw [List.length_cons, List.take_succ_cons] at h
    obtain ⟨h1, h2⟩ := List.cons.inj h
    rw [common_eq, h1, if_pos (by simp), commonOf_all xs ys h2]
theorem commonOf_at : ∀ (xs ys : List Str) (i : Nat) (x y : Str), xs.take i = ys.take i → xs[i]? = some x → ys[i]? = some y → (x == y) = false → commonOf xs ys = xs.take i
  | [], _, i, _, _, _, h, _, _ => by simp at h
  | _ :: _, [], i, _, _, _, _, h, _ => by simp at h
  | a :: xs, b :: ys, 0, x, y, _, h1, h2, h3 => by
    have e1 : a = x := by simpa using h1
    have e2 : b = y := by simpa using h2
    rw [common_eq, e1, e2, h3, if_neg Bool.false_ne_true, List.take_zero]
  | a :: xs, b :: ys, i + 1, x, y, h, h1, h2, h3 => by
    rw [List.take_succ_cons, List.take_succ_cons] at h
    obtain ⟨e1, e2⟩ := List.cons.inj h
    rw [common_eq, e1, if_pos (by simp), List.take_succ_cons, commonOf_at xs ys i x y e2 (by simpa using h1) (by simpa using h2) h3]
end Mine
end
section
open Mine.h30 Mine.h13 Mine.h14 Mine.h4 Mine.h15 Mine.h3 Mine.h16 Mine.h17 Mine.h18 Mine.h19 Mine.h20 Mine.h21 Mine.h22 Mine.h23 Mine.h24 Mine.h25 Mine.h26 Mine.h27 Mine.h28
open PySem PySem.Spec PySem.Calls PySem.W PyProof.Rows
namespace Mine
variable {p : Program} {loose : List Str} {w : World} {mean : ExcName → Option Value} {mg mb : Str → Option Value}

set_option maxHeartbeats 4000000

theorem sub_t {α : Type} {a : α} {l l' : List α} (t : ∀ p ∈ l, p ∈ l') : ∀ p ∈ l, p ∈ a :: l' := fun p h => .tail _ (t p h)
theorem sub_n {α : Type} {a d : α} {l l' : List α} (h : a ∈ l') (t : ∀ p ∈ l, p ≠ d → p ∈ l') : ∀ p ∈ a :: l, p ≠ d → p ∈ l' := List.forall_mem_cons.mpr ⟨fun _ => h, t⟩
theorem sub_d {α : Type} {d : α} {l l' : List α} (t : ∀ p ∈ l, p ≠ d → p ∈ l') : ∀ p ∈ d :: l, p ≠ d → p ∈ l' := List.forall_mem_cons.mpr ⟨fun h => absurd rfl h, t⟩
theorem sub_l {α : Type} {d : α} {l l' : List α} (t : ∀ p ∈ l, p ∈ l') : ∀ p ∈ l, p ≠ d → p ∈ l' := fun p h _ => t p h
theorem join_small {ss : List Str} (hn : ss.length ≤ 1000) (hb : ∀ y ∈ ss, y.length ≤ 1000) : (Txt.join (Str.ofString "/") ss).length ≤ 1001000 := by
  have h1 : (Txt.join (Str.ofString "/") ss).length = _ := size_glued _ ss
  have h2 : (Str.ofString "/").length = 1 := by decide +kernel
  have h3 : ∀ l : List Str, (∀ y ∈ l, y.length ≤ 1000) → (l.map (·.length)).sum ≤ l.length * 1000 := by
    intro l
    induction l with
    | nil => intro _; simp
    | cons y r ih =>
      intro h
      have a := ih fun z hz => h z (.tail _ hz)
      have b := h y (.head _)
      rw [List.map_cons, List.sum_cons, List.length_cons, Nat.succ_mul]
      (exact Ar.go [_, _, _] [(.V 1, .R 1000 (.V 2), 1), (.V 0, .N 1000, 1)] 1 (.P (.V 0) (.V 1)) (.P (.R 1000 (.V 2)) (.N 1000)) rfl a b)
  have h4 := h3 ss hb
  rw [h1, h2]
  have h5 : ss.length * 1000 ≤ 1000 * 1000 := Nat.mul_le_mul_right _ hn
  (exact Ar.go [_, _, _] [(.V 0, .R 1000 (.V 2), 1000), (.R 1000 (.V 2), .L 1000 (.N 1000), 1001), (.V 1, .V 2, 1000)] 1000 (.P (.V 0) (.R 1 (.V 1))) (.N 1001000) rfl h4 h5 (Nat.sub_le _ _))
theorem seq0 {n : Nat} (h : 0 < n) : seqIndex? 0 n = some 0 := by
  unfold seqIndex?
  simp only [Int.lt_irrefl, if_false]
  rw [if_pos (by simp; (exact Ar.go [_] [(.P (.N 0) (.N 1), .V 0, 1)] 1 (.P (.N 0) (.N 1)) (.V 0) rfl h))]
  rfl
noncomputable def partOk (c : Str) : Bool := decide ((c.length : Int) ≠ 0) && (c != Str.ofString ".")
noncomputable def partsOf (x : Str) : List Str := (Txt.split x (Str.ofString "/")).filter partOk
theorem split_len (x : Str) (h : x.length ≤ 1000) : (Txt.split x (Str.ofString "/")).length ≤ 1002 := Nat.le_trans (split_le x _) (by (exact Ar.go [_] [(.V 0, .N 1000, 1)] 1 (.P (.V 0) (.N 2)) (.N 1002) rfl h))
theorem split_each (x : Str) : ∀ y ∈ Txt.split x (Str.ofString "/"), y.length ≤ x.length := fun y h => part_short h
theorem common_spec (s1 s2 : List Str) (l : Addr) (vs : List Value) (xs : List Str) (n : Nat) (hS : StrsAre vs xs) (hn : xs.length ≤ 9) (hn0 : 0 < xs.length) (hxl : ∀ x ∈ xs, x.length ≤ 1000) (hxs : ∀ x ∈ xs, Txt.startswith x (Str.ofString "/") = true) 
  (h1 : rowAtD (xs.map partsOf) (argBest (ltAt (xs.map partsOf)) ((xs.map partsOf).length - 1)) = s1) (h2 : rowAtD (xs.map partsOf) (argBest (gtAt (xs.map partsOf)) ((xs.map partsOf).length - 1)) = s2)
  (hord : ∀ i, i < s1.length → s1.take i = s2.take i → i < s2.length) (hsl1 : s1.length ≤ 1000) (hsl2 : s2.length ≤ 1000) (hse : ∀ y ∈ s1, y.length ≤ 1000) :
  Spec p loose w mean mg mb 171 30 400 [.ref l] [(l, listOf vs.toArray n)] (RStr (Str.ofString "/" ++ Txt.join (Str.ofString "/") (commonOf s1 s2))) := by
  unfold Spec; k_fill
  intro dp un gd cn cs a ccd cl outer A₀ base h₀ L m news s Q E B F X N T hk hneed hd hu hret
  refine wpAny_call ?_
  (refine' code_defC ?k1 ?k2 ?k3 ?k4 ?k5 ?kA ?kF ?kK ?k6 ?k7 ?k8 ?k9 ?kB ?kD ?_ ?c2 ?c3 ?c4; (case kA | kF => exact rfl); (case kK => assumption); (case k1 | k2 | k3 | k4 | k5 => k_asm); (case k6 | k7 => k_is); (case k8 => ktr_room); (case k9 => first | exact BindsTo.of_eq rfl | exact binds_K (by k_in) rfl (by k_is) rfl rfl rfl); (case kB => exact rfl); (case kD => decide +kernel); (case c2 | c3 | c4 => exact rfl); k_whole; walk_at "mine e2")
  rename_i gX L1 hX tX FGX FX BX XX TX lN o2 o1 d2 d1 NX
  change o2.data = Data.cell none at d2
  change o1.data = Data.cell none at d1
  change Fr gX L1 hX (fun z => if z = Str.ofString "paths" then some (Value.ref l) else none) at FX
  have hm1 := hneed _ (.head _)
  have hSf : Unit → StrsAre vs xs := fun _ => hS
  clear hS
  have hk1 : ∀ p ∈ news, p.1 ≠ L1 + 1 := fun p hp => Nat.ne_of_lt (Nat.lt_succ_of_lt (lN p hp))
  have hk2 : ∀ p ∈ news, p.1 ≠ L1 + 1 + 1 := fun p hp => Nat.ne_of_lt (Nat.lt_succ_of_lt (Nat.lt_succ_of_lt (lN p hp)))
  (k_steps; repeat (any_goals (refine Halt.go ?_; (first | ((with_reducible show wpAny _ _ (call (Value.ref 131) [Value.str _ _]) _ _ _); k_dflt (refine' spec_use (sep_spec _ _) (by k_asm) (by k_asm) (by k_asm) (by k_asm) (by k_asm) (by first | exact rfl | assumption) (by exact fun _ h => nomatch h) (by ktr_room) (by ktr_units) ?_); intro _ _ _ _ zN; (dsimp only [List.nil_append, List.cons_append] at zN); (revert zN; intro _); (try dsimp only); (try k_fold)) | ((with_reducible show wpAny _ _ (call (Value.ref 117) [Value.str _ _]) _ _ _); k_dflt (refine' spec_use (fspath_spec _ _) (by k_asm) (by k_asm) (by k_asm) (by k_asm) (by k_asm) (by first | exact rfl | assumption) (by exact fun _ h => nomatch h) (by ktr_room) (by ktr_units) ?_); intro _ _ _ zN; (dsimp only [List.nil_append, List.cons_append] at zN); (revert zN; intro _); (try dsimp only); (try k_fold))); k_steps)))
  refine Halt.go ?_
  refine map_led (vs := vs) (n := n) (by k_asm) (by k_asm) (by (repeat' (first | assumption | exact List.mem_cons_self | refine List.mem_cons_of_mem _ ?_))) ?_
  intro I M1 M2 h3 l3 l4 l5 F3 N3
  dsimp only
  k_steps
  refine Halt.go ?_
  refine tuple_map (vs := vs) (n := n) (l := l) rfl ?hid (Nat.ne_of_gt (Nat.lt_trans l4 l5)) (Nat.ne_of_gt l4) (fun p hp => Nat.ne_of_lt (l3 p hp)) ?hz (by (repeat' (first | assumption | exact List.mem_cons_self | refine List.mem_cons_of_mem _ ?_))) F3 N3 ?_
  case hid =>
    intro v h4 tk4 led4 Q4 E4 hv F4 N4 hq
    obtain ⟨x, t, rfl⟩ : ∃ x t, v = Value.str x t := by
      obtain ⟨i, hi, e⟩ := List.getElem_of_mem hv
      have hi2 : i < xs.length := by rw [← strs_len (hSf ())]; exact hi
      obtain ⟨t, ht⟩ := strs_val (hSf ()) (List.getElem?_eq_getElem hi2) (List.getElem?_eq_getElem hi)
      exact ⟨_, t, e.symm.trans ht⟩
    k_dflt (refine' spec_use (fspath_spec _ _) ?k1 ?k2 ?k3 ?k4 ?k5 ?kK ?kn ?kd ?ku ?_)
    case kn => exact fun _ h => nomatch h
    ((case k1 | k2 | k3 | k4 | k5 => k_asm); (case kK => first | exact rfl | assumption); (case kd => ktr_room); (case ku => ktr_units))
    intro h9 tk9 F9 N9
    exact hq h9 tk9 F9 N9
  case hz => rw [strs_len (hSf ())]; (exact Ar.go [_] [(.V 0, .N 9, 1)] 1 (.V 0) (.N 1000) rfl hn)
  intro D h5 tk5 l6 F5 N5
  have l7 := l6
  k_lt l7
  k_steps
  refine Halt.go ?_
  refine ktl_truthyK (by k_asm) List.mem_cons_self (by rw [strs_len (hSf ())]; (exact Ar.go [_] [(.V 0, .N 9, 1)] 1 (.V 0) (.N 1000) rfl hn)) ?_
  have hvs0 : vs.isEmpty = false := by
    cases vs with
    | nil => have := strs_len (hSf ()); simp at this; lia
    | cons a r => rfl
  rw [hvs0]
  k_steps
  refine Halt.go ?_
  rename News _ _ _ _ => N6
  have hx0 : 0 < vs.length := by rw [strs_len (hSf ())]; exact hn0
  obtain ⟨t0, ht0⟩ := strs_val (hSf ()) (List.getElem?_eq_getElem hn0) (List.getElem?_eq_getElem hx0)
  refine item_tupleT (j := 0) (x := .str xs[0] t0) ⟨_, (N6 _ List.mem_cons_self).1, rfl, 0, rfl⟩ (by decide) (by decide) ?hj ?hx ?_
  case hj => exact seq0 hx0
  case hx => rw [List.getElem?_eq_getElem hx0, ht0]
  k_steps
  rename_i tS hS1 oS dS hC oC FC NC dC
  refine Try_no ?_
  k_steps
  refine Halt.go ?_
  refine Assign_ListComp_Tup (F₀ := FC) rfl (by with_unfolding_all rfl) (by with_unfolding_all rfl) (by decide) (by rfl) (by decide) (by rfl) (by rfl) (by rfl) ?_
  k_steps
  refine Halt.go ?_
  refine SrcTup.of rfl FC NC List.mem_cons_self (by rw [strs_len (hSf ())]; (exact Ar.go [_] [(.V 0, .N 9, 1)] 1 (.V 0) (.N 1000) rfl hn)) ?_
  intro g6
  refine comp_inv (fun i ys nw => ∃ tl, nw = (D, tupO vs) :: (L1 + 1 + 1, oC) :: (L1 + 1, oS) :: tl ∧ (∀ p ∈ news, p ∈ tl) ∧ RowsIn tl ys ((xs.take i).map fun x => Txt.split x (Str.ofString "/"))) ⟨news, rfl, fun _ h => h, ⟨rfl, fun j r h => by simp at h⟩⟩ ?turn1 ?fin1
  case turn1 =>
    intro i v I oI C oC' D3 m₂ ys nw h tk E' hi hJ hv hC' hx9 F9 N9 off ne
    obtain ⟨tl, rfl, hsub, hy⟩ := hJ
    have hix : i < xs.length := by rw [← strs_len (hSf ())]; exact hi
    obtain ⟨tv, rfl⟩ := strs_val (hSf ()) (List.getElem?_eq_getElem hix) hv
    have hxi : xs[i]? = some xs[i] := List.getElem?_eq_getElem hix
    have hxa := hxl xs[i] (List.getElem_mem hix)
    generalize xs[i] = x at hxi hxa hv hx9
    have hlt9 := fun p hp => Heap.lt_size (N9 p hp).1
    k_steps
    rename List (Str × Tok) => lp
    rename (List.map _ _ = Txt.split _ _) => e10
    rename StrsAre (strValues _) _ => hSA
    rename Fr _ _ _ _ => F10
    rename News _ _ _ _ => N10
    rw [e10] at hSA
    refine LCg.CompEnd.intro F10 N10 ((D, tupO vs) :: (L1 + 1 + 1, oC) :: (L1 + 1, oS) :: (h.objs.size, listOf (strValues lp).toArray 0) :: tl) ?sub (off3_new (a := h.objs.size) hlt9 off ?off) List.mem_cons_self ⟨_, rfl, fun p hp => .tail _ (hsub p hp), ?_⟩
    case sub => ((repeat refine sub_c (by (repeat' (first | assumption | exact List.mem_cons_self | refine List.mem_cons_of_mem _ ?_))) ?_); (repeat (first | exact fun _ h => h | refine sub_t ?_)))
    case off => exact List.forall_mem_cons.mpr ⟨.inr (by (repeat' (first | assumption | exact List.mem_cons_self | refine List.mem_cons_of_mem _ ?_))), List.forall_mem_cons.mpr ⟨.inr (by (repeat' (first | assumption | exact List.mem_cons_self | refine List.mem_cons_of_mem _ ?_))), List.forall_mem_cons.mpr ⟨.inr (by (repeat' (first | assumption | exact List.mem_cons_self | refine List.mem_cons_of_mem _ ?_))), List.forall_mem_cons.mpr ⟨.inl rfl, fun p h => .inr (.tail _ (.tail _ (.tail _ h)))⟩⟩⟩⟩
    rw [List.take_add_one, hxi, Option.toList_some, List.map_append]
    exact rowsIn_snoc hy (fun p hp => .tail _ hp) (.head _) hSA
  case fin1 =>
    intro ys nw hJ
    obtain ⟨tl, rfl, hsub, hy⟩ := hJ
    have hyl := hy.1
    rw [show vs.length = xs.length from strs_len (hSf ()), List.take_length] at hy
    k_steps
    rename_i DS h51 tk51 F51 N51 o51
    refine Try_no ?_
    k_steps
    refine Halt.go ?_
    refine Assign_one ?_
    rename News _ _ _ _ => N11
    rename Fr _ _ _ _ => F11
    refine SetComp_T (F₀ := F11) (by with_unfolding_all rfl) (by decide) (by rfl) (by decide) (by rfl) ?_
    k_steps
    refine Halt.go ?_
    refine ⟨D, vs, _, rfl, F11, N11, .tail _ (.head _), hx0, ?_, ?_⟩
    · intro i v I oI C oC' D3 oD3 m₂ g h tk E' hv hC' hx9 F9 N9 off ne
      have hix : i < xs.length := by
        rw [← strs_len (hSf ())]
        rcases Nat.lt_or_ge i vs.length with h | h
        · exact h
        · rw [List.getElem?_eq_none h] at hv; cases hv
      obtain ⟨tv, rfl⟩ := strs_val (hSf ()) (List.getElem?_eq_getElem hix) hv
      have hxa := hxl xs[i] (List.getElem_mem hix)
      have hxb := hxs xs[i] (List.getElem_mem hix)
      generalize xs[i] = x at hxa hxb hv hx9
      k_steps
      exact SetEnd.intro hxb (by k_asm) (by k_asm) (fun p hp => hp)
    · intro D6 h6 tk6 ep F6 N6 o6
      refine unpack_set rfl F6 N6 (.head _) fun h7 F7 N7 => ⟨_, rfl, ?_⟩
      k_steps
      refine Halt.go ?_
      rename News _ _ _ _ => N8
      rename Fr _ _ _ _ => F8
      refine LCg.Assign_ListComp_U (F₀ := F8) rfl (by with_unfolding_all rfl) (by with_unfolding_all rfl) (by decide) (by rfl) (by decide) (by rfl) (by rfl) (by rfl) ?_
      k_steps
      refine Halt.go ?_
      have hyl2 : ys.length ≤ 9 := by rw [hy.1, List.length_map]; exact hn
      k_dflt (refine LCg.CompSrc.ledger (ax := DS) (its := ys.toArray) rfl F8 N8 (.tail _ (.head _)) ?hz ?_)
      case hz => simp [sizeLine]; (exact Ar.go [_] [(.V 0, .N 9, 1)] 1 (.V 0) (.N 16777216) rfl hyl2)
      intro g9
      refine comp_inv (fun i zs nw => ∃ tl2, nw = (D6, setO1 (!byText w) ep) :: (DS, LCg.lst ys) :: (D, tupO vs) :: (L1 + 1 + 1, oC) :: (L1 + 1, oS) :: tl2 ∧ (∀ p ∈ tl, p ∈ tl2) ∧ RowsIn tl2 zs ((xs.take i).map partsOf)) ⟨tl, rfl, fun _ h => h, rowsIn_nil⟩ ?turn2 ?fin2
      case turn2 =>
        intro i v I oI C oC' D3 m₂ zs nw h tk E' hi hJ hv hC' hx9 F9 N9 off ne
        obtain ⟨tl2, rfl, hsub2, hz2⟩ := hJ
        have hix : i < xs.length := by
          have := hy.1
          rw [List.length_map] at this
          simpa [this] using hi
        have hxi : xs[i]? = some xs[i] := List.getElem?_eq_getElem hix
        have hxa := hxl xs[i] (List.getElem_mem hix)
        generalize xs[i] = x at hxi hxa
        refine hy.row (r := Txt.split x (Str.ofString "/")) (by rw [List.getElem?_map, hxi]; rfl) fun aj uj kj hvj hmj hsj => ?_
        obtain rfl : v = Value.ref aj := by
          have : ys[i]? = some v := by simpa using hv
          rw [hvj] at this; exact (Option.some.inj this).symm
        have hlt9 := fun p hp => Heap.lt_size (N9 p hp).1
        have hmj2 := hsub2 _ hmj
        k_steps
        refine Halt.go ?_
        refine LCt.ListComp_T (F₀ := F9) (by with_unfolding_all rfl) (by decide) (by rfl) (by decide) (by rfl) ?_
        k_steps
        refine Halt.go ?_
        have hul := strs_len hsj
        have hsl : (Txt.split x (Str.ofString "/")).length ≤ 1002 := split_len x hxa
        k_dflt (refine LCt.CompSrcT.ledger (its := uj.toArray) rfl F9 N9 (.tail _ (.tail _ (.tail _ (.tail _ (.tail _ (.tail _ (.tail _ (.tail _ hmj2)))))))) ?hz3 ?_)
        case hz3 => simp [sizeLine]; (exact Ar.go [_, _] [(.V 0, .V 1, 1), (.V 1, .N 1002, 1)] 1 (.V 0) (.N 16777216) rfl (Nat.le_of_eq hul) hsl)
        intro g12
        refine comp_invT (fun j us nw => nw = _ ∧ StrsAre us (((Txt.split x (Str.ofString "/")).take j).filter partOk)) ⟨rfl, .nil⟩ ?turn3 ?fin3
        case turn3 =>
          intro j v I2 oI2 C2 oC2 D4 m₃ us nw h12 tk12 E12 hj hJ hv hC2 hx12 F12 N12 off12 ne12
          obtain ⟨rfl, hus⟩ := hJ
          have hjx : j < (Txt.split x (Str.ofString "/")).length := by rw [← hul]; simpa using hj
          have hc1 : (Txt.split x (Str.ofString "/"))[j]? = some (Txt.split x (Str.ofString "/"))[j] := List.getElem?_eq_getElem hjx
          obtain ⟨tv, rfl⟩ := strs_val hsj hc1 (by simpa using hv)
          have hcl : (Txt.split x (Str.ofString "/"))[j].length ≤ 1000 := Nat.le_trans (split_each x _ (List.getElem_mem hjx)) hxa
          generalize (Txt.split x (Str.ofString "/"))[j] = c at hc1 hcl hv hx12
          have hmem3 := List.mem_cons_of_mem (I, oI) (List.mem_cons_of_mem (C, oC') (List.mem_cons_of_mem (D3, LCg.lst zs) (List.mem_cons_of_mem (D6, setO1 (!byText w) ep) (List.mem_cons_of_mem (DS, LCg.lst ys) (List.mem_cons_of_mem (D, tupO vs) (List.mem_cons_of_mem (L1 + 1 + 1, oC) (List.mem_cons_of_mem (L1 + 1, oS) hmj2)))))))
          k_steps
          · have hok : partOk c = true := by unfold partOk; first | (simp [*]; done) | (simp [*]; lia)
            refine LCg.CompEnd.intro (by k_asm) (by k_asm) _ (by kcj_all) off12 (.inr ⟨_, hmem3, rfl, _, rfl⟩) ⟨rfl, ?_⟩
            rw [List.take_add_one, hc1, Option.toList_some, List.filter_append, List.filter_cons, hok, if_pos rfl]
            exact StrsAre.append' hus (strs_one c tv)
          · have hok : partOk c = false := by unfold partOk; first | (simp [*]; done) | (simp [*]; lia)
            refine LCg.CompEnd.intro (by k_asm) (by k_asm) _ (by kcj_all) off12 (.inr ⟨_, hmem3, rfl, _, rfl⟩) ⟨rfl, ?_⟩
            rw [List.take_add_one, hc1, Option.toList_some, List.filter_append, List.filter_cons, hok, if_neg Bool.false_ne_true]
            simpa using hus
          · have hok : partOk c = false := by unfold partOk; first | (simp [*]; done) | (simp [*]; lia)
            refine LCg.CompEnd.intro (by k_asm) (by k_asm) _ (by kcj_all) off12 (.inr ⟨_, hmem3, rfl, _, rfl⟩) ⟨rfl, ?_⟩
            rw [List.take_add_one, hc1, Option.toList_some, List.filter_append, List.filter_cons, hok, if_neg Bool.false_ne_true]
            simpa using hus
        case fin3 =>
          intro us nw hJ
          obtain ⟨rfl, hus⟩ := hJ
          rw [show uj.toArray.size = (Txt.split x (Str.ofString "/")).length by simpa using hul, List.take_length] at hus
          change StrsAre us (partsOf x) at hus
          k_steps
          rename_i D9 h9 tk9 F91 N91 o9
          refine LCg.CompEnd.intro F91 N91 ((D6, setO1 (!byText w) ep) :: (DS, LCg.lst ys) :: (D, tupO vs) :: (L1 + 1 + 1, oC) :: (L1 + 1, oS) :: (D9, LCg.lst us) :: tl2) ?sub (LCg.Off3.of fun p hp => ?off) (.inr ⟨_, .tail _ (.head _), rfl, _, rfl⟩) ⟨_, rfl, fun p hp => .tail _ (hsub2 p hp), ?_⟩
          case sub => ((repeat refine sub_c (by (repeat' (first | assumption | exact List.mem_cons_self | refine List.mem_cons_of_mem _ ?_))) ?_); (repeat (first | exact fun _ h => h | refine sub_t ?_)))
          case off =>
            by_cases hp9 : p = (D9, LCg.lst us)
            · rw [hp9]
              exact ⟨Ne.symm o9.1, Ne.symm o9.2.1, Ne.symm o9.2.2.1⟩
            · exact off.mem p ((by (repeat (first | refine sub_d ?_ | refine sub_n (by (repeat' (first | assumption | exact List.mem_cons_self | refine List.mem_cons_of_mem _ ?_))) ?_)); refine sub_l ?_; (repeat (first | exact fun _ h => h | refine sub_t ?_)) : ∀ p ∈ _, p ≠ _ → p ∈ _) p hp hp9)
          rw [List.take_add_one, hxi, Option.toList_some, List.map_append]
          exact rowsIn_snoc hz2 (fun p hp => .tail _ hp) (.head _) hus
      case fin2 =>
        intro zs nw hJ
        obtain ⟨tl2, rfl, hsub2, hz2⟩ := hJ
        rw [show ys.toArray.size = xs.length by simpa using hy.1, List.take_length] at hz2
        k_steps
        rename_i DZ h61 tk61 F61 N61 o61
        refine Halt.go ?_
        have hz3 := hz2.mono fun p hp => List.mem_cons_of_mem (DZ, LCg.lst zs) (List.mem_cons_of_mem (D6, setO1 (!byText w) ep) (List.mem_cons_of_mem (DS, LCg.lst ys) (List.mem_cons_of_mem (D, tupO vs) (List.mem_cons_of_mem (L1 + 1 + 1, oC) (List.mem_cons_of_mem (L1 + 1, oS) hp)))))
        refine min_rows (vs := zs) (n := zs.length) rfl ?hu1 F61 N61 List.mem_cons_self hz3 (by rw [List.length_map]; exact hn0) ?_
        case hu1 => ktr_units
        intro a1 u1 k1 h71 tk71 hm1a hs1 F71 N71
        k_steps
        refine Halt.go ?_
        rename News _ _ _ _ => N72
        rename Fr _ _ _ _ => F72
        refine max_rows (vs := zs) (n := zs.length) rfl ?hu2 F72 N72 List.mem_cons_self hz3 (by rw [List.length_map]; exact hn0) ?_
        case hu2 => ktr_units
        intro a2 u2 k2 h81 tk81 hm2a hs2 F81 N81
        rw [h1] at hs1
        rw [h2] at hs2
        have hul1 := strs_len hs1
        have hul2 := strs_len hs2
        k_steps
        refine Halt.go ?_
        refine wpAny_ForA ?_
        k_steps
        refine Halt.go ?_
        rename News _ _ _ _ => N91
        rename Fr _ _ _ _ => F91
        have hm1b := hm1a
        have hin : ∀ p ∈ news, p ∈ (DZ, LCg.lst zs) :: (D6, setO1 (!byText w) ep) :: (DS, LCg.lst ys) :: (D, tupO vs) :: (L1 + 1 + 1, oC) :: (L1 + 1, oS) :: tl2 := fun p hp => .tail _ (.tail _ (.tail _ (.tail _ (.tail _ (.tail _ (hsub2 p (hsub p hp)))))))
        have hm2b := hm2a
        refine enumN (vs := u1) (n := k1) (fun i => s1.take i = s2.take i) rfl rfl rfl rfl hm1a F91 N91 (by simp) ?turn9 ?done9
        case turn9 =>
          intro i v t h tk own hv hJ F9 N9
          have hi1 : i < s1.length := by
            rw [← hul1]
            rcases Nat.lt_or_ge i u1.length with h | h
            · exact h
            · rw [List.getElem?_eq_none h] at hv; cases hv
          have hi2 := hord i hi1 hJ
          have e1 : s1[i]? = some s1[i] := List.getElem?_eq_getElem hi1
          have e2 : s2[i]? = some s2[i] := List.getElem?_eq_getElem hi2
          obtain ⟨tv, rfl⟩ := strs_val hs1 e1 hv
          obtain ⟨tw, hw⟩ := strs_at hs2 i _ e2
          generalize s1[i] = x at *
          generalize s2[i] = y at *
          k_steps
          refine Halt.go ?_
          refine item_ledL (vs := u2) (n := k2) N9 (List.mem_append_left _ hm2a) (by (exact Int.natCast_nonneg _)) (by (exact Ar.cl (n := 9223372036854775808) (Ar.go [_, _] [(.V 1, .N 1000, 1), (.P (.V 0) (.N 1), .V 1, 1)] 1 (.P (.V 0) (.N 1)) (.N 9223372036854775808) rfl hsl1 hi1) (by rfl))) (v := .str y tw) hw ?_
          k_steps
          · refine Halt.go ?_
            refine take_led (s := ⟨_, _, _, _, _⟩) F9 N9 (vs := u1) (n := k1) (k := i) (List.mem_append_left _ hm1a) (by (exact Ar.go [_, _] [(.V 1, .N 1000, 1), (.V 0, .V 1, 1)] 1 (.V 0) (.N 1000) rfl hsl1 (Nat.le_of_eq hul1))) rfl ?_
            intro D9 h9 l9 F92 N92
            have hne : (x == y) = false := by
              have : (x != y) = true := by assumption
              simpa using this
            have hcm := commonOf_at s1 s2 i x y hJ e1 e2 hne
            k_steps
            refine TurnE.brk ?_
            k_steps
            refine Halt.go ?_
            rename News _ _ _ _ => N93
            have hjo := joinOk_of (x := Str.ofString "/") (by decide +kernel) (ss := s1.take i) (by rw [List.length_take]; (exact Ar.go [_, _] [(.V 1, .N 1000, 1), (.V 0, .V 1, 1)] 1 (.V 0) (.N 1000) rfl hsl1 (Nat.min_le_right _ _))) (fun y hy => hse y (List.mem_of_mem_take hy))
            have hjs := join_small (ss := s1.take i) (by rw [List.length_take]; (exact Ar.go [_, _] [(.V 1, .N 1000, 1), (.V 0, .V 1, 1)] 1 (.V 0) (.N 1000) rfl hsl1 (Nat.min_le_right _ _))) (fun y hy => hse y (List.mem_of_mem_take hy))
            refine join_led (us := u1.take i) (n := 0) N93 List.mem_cons_self (strs_take hs1 i) hjo ?_
            intro t11 k11
            rw [← hcm] at hjs ⊢
            k_steps
            rename News _ _ _ _ => N99
            exact ret_str hret rfl (by k_asm) (cb_drop N99 fun p hp => .tail _ (List.mem_append_left _ (hin p hp)))
          · have hxy : x = y := by
              have : (x != y) = false := by assumption
              simpa using this
            refine TurnE.next (by k_asm) (by k_asm) (fun p hp => hp) ⟨fun z h1 h2 => by simp only [if_neg h1, if_neg h2], ?_⟩
            rw [List.take_add_one, List.take_add_one, e1, e2, hJ, hxy]
        case done9 =>
          intro u u' h tk hJ F9 N9
          rw [hul1, List.take_length] at hJ
          have hcm := commonOf_all s1 s2 hJ
          k_steps
          refine Halt.go ?_
          rename News _ _ _ _ => N93
          have hjo := joinOk_of (x := Str.ofString "/") (by decide +kernel) (ss := s1) hsl1 hse
          have hjs := join_small (ss := s1) hsl1 hse
          refine join_led (us := u1) (n := k1) N93 hm1b hs1 hjo ?_
          intro t11 k11
          k_steps
          rename News _ _ _ _ => N99
          exact ret_str hret (by rw [hcm]) (by k_asm) (cb_drop N99 fun p hp => hin p hp)
end Mine
end
section
open Mine.h4 Mine.h15
open PySem PySem.Spec PySem.Calls PySem.W PyProof.Rows
namespace Mine
variable {p : Program} {loose : List Str} {w : World} {mean : ExcName → Option Value} {mg mb : Str → Option Value}

set_option maxHeartbeats 4000000
noncomputable def rowAt (x : Int) (i : Nat) : Str := nameAt (((x.fdiv 4).fdiv (4 ^ i)).fmod 4)
noncomputable def rowOf (x : Int) : List Str := (List.range (1 + (x.fmod 4).toNat)).map (rowAt x)
noncomputable abbrev RStrs (ss : List Str) : (Value → List (Addr × Obj) → Prop) → Prop := fun P => ∀ a vs n, StrsAre vs ss → P (.ref a) [(a, listOf vs.toArray n)]
theorem off1_mem {D : Addr} : ∀ {l : List (Addr × Obj)}, LCg.Off1 D l → ∀ p ∈ l, p.1 ≠ D
  | [], _, _, h => nomatch h
  | _ :: _, x, p, h => by
    rcases List.mem_cons.mp h with rfl | h
    · exact x.1
    · exact off1_mem x.2 p h
noncomputable def SpecF (p : Program) (loose : List Str) (w : World) (mean : ExcName → Option Value) (mg mb : Str → Option Value) (f : Addr) (dD dU : Nat) (args : List Value) (need : List (Addr × Obj)) (Ret : (Value → List (Addr × Obj) → Prop) → Prop) : Prop :=
  ∀ (dp un : Nat) (gd : Option (List Code)) (cn : Str) (cs : Scope) (a : Addr) (ccd : Value) (cl : List (Str × Addr)) (outer : List Env) (A₀ : Around) (base h₀ : Heap) (L : Addr) (m : Str → Option Value) (news : List (Addr × Obj)) (s : Shared)
    (Q E : Value → Shared → Prop),
    Below A₀ base outer h₀ → Fr h₀ L s.heap m → (Mine.hd.heap_1 w.params).In h₀ → News h₀ L s.heap news → Top p loose mean mg mb h₀ → cs.kind = .function → (∀ q ∈ need, q ∈ news) → dp + dD < recursionLimit → un + dU < cLine →
    Ret (fun r tl => (∀ q ∈ tl, ∀ p ∈ news, p.1 ≠ q.1) → ∀ h' tk', Fr h₀ L h' m → News h₀ L h' (tl ++ news) → Q r { s with heap := h', toks := tk' }) →
    wpAny (model PySem.Challenge.rw_ik0191_01.row.prog w) (ktrTop dp un gd cn cs L a ccd cl outer) (call (.ref f) args) Q E s
theorem names_specF (x : Int) (t : Tok) :
  SpecF p loose w mean mg mb 176 8 80 [.int x t] [] (RStrs (rowOf x)) := by
  unfold SpecF; k_fill
  intro dp un gd cn cs a ccd cl outer A₀ base h₀ L m news s Q E B F X N T hk hneed hd hu hret
  refine wpAny_call ?_
  (refine' code_defC ?k1 ?k2 ?k3 ?k4 ?k5 ?kA ?kF ?kK ?k6 ?k7 ?k8 ?k9 ?kB ?kD ?_ ?c2 ?c3 ?c4; (case kA | kF => exact rfl); (case kK => assumption); (case k1 | k2 | k3 | k4 | k5 => k_asm); (case k6 | k7 => k_is); (case k8 => ktr_room); (case k9 => first | exact BindsTo.of_eq rfl | exact binds_K (by k_in) rfl (by k_is) rfl rfl rfl); (case kB => exact rfl); (case kD => decide +kernel); (case c2 | c3 | c4 => exact rfl); k_whole; walk_at "mine e2")
  k_steps
  refine Halt.go ?_
  have hx0 : 0 ≤ Int.fmod x 4 := Int.fmod_nonneg_of_pos x (by decide)
  have hx1 : Int.fmod x 4 < 4 := Int.fmod_lt_of_pos x (by decide)
  obtain ⟨r, hr, hr4⟩ : ∃ r : Nat, Int.fmod x 4 = r ∧ r < 4 := ⟨(Int.fmod x 4).toNat, by lia, by lia⟩
  have hrow : rowOf x = (List.range (1 + r)).map (rowAt x) := by
    unfold rowOf
    rw [hr, Int.toNat_natCast]
  have hc : r = 0 ∨ r = 1 ∨ r = 2 ∨ r = 3 := by lia
  k_dflt (refine LCg.CompSrc.range (n := 1 + r) rfl (by k_asm) (by k_asm) (by assumption) ?hsm ?hn ?hz ?_)
  case hsm => rw [hr]; rcases hc with rfl | rfl | rfl | rfl <;> decide
  case hn => rw [hr]; rcases hc with rfl | rfl | rfl | rfl <;> decide
  case hz => rw [sizeLine_eq]; (exact Ar.go [_] [(.P (.V 0) (.N 1), .N 4, 1)] 1 (.P (.N 1) (.V 0)) (.N 16777216) rfl hr4)
  intro g9
  refine comp_inv (fun i ys nw => nw = _ ∧ StrsAre ys ((List.range i).map (rowAt x))) ⟨rfl, .nil⟩ ?turn ?fin
  case turn =>
    intro i v I oI C oC D m₂ ys nw h9 tk9 E9 hi hJ hv hC hx F9 N9 off ne
    obtain ⟨rfl, hy⟩ := hJ
    rcases i with _ | _ | _ | _ | i
    · obtain ⟨tv, hv⟩ := hv
      obtain rfl : v = .int 0 tv := hv
      (k_steps; repeat (any_goals (refine Halt.go ?_; (with_reducible show wpAny _ _ (subscriptTail _ _ (Value.ref _) (Value.int _ _)) _ _ _); k_dflt (refine' menu4 (by k_asm) (by k_mem) (by exact Int.fmod_nonneg_of_pos _ (by decide)) (by exact Int.fmod_lt_of_pos _ (by decide)) ?_); intro _; k_steps)))
      all_goals exact LCg.CompEnd.intro (by k_asm) (by k_asm) _ (by kcj_all) off trivial ⟨rfl, by rw [List.range_succ, List.map_append]; exact StrsAre.append' hy (strs_one _ _)⟩
    · obtain ⟨tv, hv⟩ := hv
      obtain rfl : v = .int 1 tv := hv
      (k_steps; repeat (any_goals (refine Halt.go ?_; (with_reducible show wpAny _ _ (subscriptTail _ _ (Value.ref _) (Value.int _ _)) _ _ _); k_dflt (refine' menu4 (by k_asm) (by k_mem) (by exact Int.fmod_nonneg_of_pos _ (by decide)) (by exact Int.fmod_lt_of_pos _ (by decide)) ?_); intro _; k_steps)))
      all_goals exact LCg.CompEnd.intro (by k_asm) (by k_asm) _ (by kcj_all) off trivial ⟨rfl, by rw [List.range_succ, List.map_append]; exact StrsAre.append' hy (strs_one _ _)⟩
    · obtain ⟨tv, hv⟩ := hv
      obtain rfl : v = .int 2 tv := hv
      (k_steps; repeat (any_goals (refine Halt.go ?_; (with_reducible show wpAny _ _ (subscriptTail _ _ (Value.ref _) (Value.int _ _)) _ _ _); k_dflt (refine' menu4 (by k_asm) (by k_mem) (by exact Int.fmod_nonneg_of_pos _ (by decide)) (by exact Int.fmod_lt_of_pos _ (by decide)) ?_); intro _; k_steps)))
      all_goals exact LCg.CompEnd.intro (by k_asm) (by k_asm) _ (by kcj_all) off trivial ⟨rfl, by rw [List.range_succ, List.map_append]; exact StrsAre.append' hy (strs_one _ _)⟩
    · obtain ⟨tv, hv⟩ := hv
      obtain rfl : v = .int 3 tv := hv
      (k_steps; repeat (any_goals (refine Halt.go ?_; (with_reducible show wpAny _ _ (subscriptTail _ _ (Value.ref _) (Value.int _ _)) _ _ _); k_dflt (refine' menu4 (by k_asm) (by k_mem) (by exact Int.fmod_nonneg_of_pos _ (by decide)) (by exact Int.fmod_lt_of_pos _ (by decide)) ?_); intro _; k_steps)))
      all_goals exact LCg.CompEnd.intro (by k_asm) (by k_asm) _ (by kcj_all) off trivial ⟨rfl, by rw [List.range_succ, List.map_append]; exact StrsAre.append' hy (strs_one _ _)⟩
    · exact absurd hi (by (exact Nat.not_lt_of_le (Ar.go [_, _] [(.P (.V 0) (.N 1), .N 4, 1)] 1 (.P (.N 1) (.V 0)) (.P (.P (.P (.P (.V 1) (.N 1)) (.N 1)) (.N 1)) (.N 1)) rfl hr4)))
  case fin =>
    intro ys nw hJ
    obtain ⟨rfl, hy⟩ := hJ
    rw [← hrow] at hy
    k_steps
    all_goals rename _ ∧ LCg.Off1 _ _ => o1
    all_goals exact hret _ _ _ hy (fun q hq => by rw [List.mem_singleton.mp hq]; exact off1_mem o1.2) _ _ (by k_asm) (by exact cb_drop (by k_asm) (by kcj_all))
end Mine
end
section
open PySem PySem.W PyProof.Rows
namespace Mine
noncomputable def lets : List Str := [Str.ofString "aa", Str.ofString "ab", Str.ofString "ba", Str.ofString "bb"]
noncomputable def RowOk (r : List Str) : Prop := 1 ≤ r.length ∧ r.length ≤ 4 ∧ ∀ b ∈ r, b ∈ lets
noncomputable def rowsN : Nat → List (List Str)
  | 0 => [[]]
  | n + 1 => lets.flatMap fun b => (rowsN n).map fun r => b :: r
noncomputable def allRows : List (List Str) := rowsN 1 ++ rowsN 2 ++ rowsN 3 ++ rowsN 4
theorem mem_rowsN : ∀ (r : List Str), (∀ b ∈ r, b ∈ lets) → r ∈ rowsN r.length
  | [], _ => by simp [rowsN]
  | b :: r, h => by
    rw [List.length_cons, rowsN]
    exact List.mem_flatMap.mpr ⟨b, h b (.head _), List.mem_map.mpr ⟨r, mem_rowsN r fun c hc => h c (.tail _ hc), rfl⟩⟩
theorem mem_allRows {r : List Str} (h : RowOk r) : r ∈ allRows := by
  obtain ⟨h1, h4, hl⟩ := h
  have hm := mem_rowsN r hl
  have hc : r.length = 1 ∨ r.length = 2 ∨ r.length = 3 ∨ r.length = 4 := by lia
  unfold allRows
  rcases hc with e | e | e | e <;> rw [e] at hm <;> simp [hm]
noncomputable def pathOf (r : List Str) : Str := Str.ofString "/" ++ Txt.join (Str.ofString "/") r
theorem rowOk_of (x : Int) : RowOk (rowOf x) := by
  have h0 : 0 ≤ x.fmod 4 := Int.fmod_nonneg_of_pos x (by decide)
  have h4 : x.fmod 4 < 4 := Int.fmod_lt_of_pos x (by decide)
  refine ⟨by unfold rowOf; rw [List.length_map, List.length_range]; (exact Ar.go [_] [] 1 (.N 1) (.P (.N 1) (.V 0)) rfl), by unfold rowOf; rw [List.length_map, List.length_range]; lia, fun b hb => ?_⟩
  unfold rowOf at hb
  obtain ⟨i, _, rfl⟩ := List.mem_map.mp hb
  unfold rowAt nameAt lets
  split
  · exact .head _
  · split
    · exact .tail _ (.head _)
    · split <;> simp
theorem RowOk.reverse {r : List Str} (h : RowOk r) : RowOk r.reverse := ⟨by simpa using h.1, by simpa using h.2.1, fun b hb => h.2.2 b (List.mem_reverse.mp hb)⟩
theorem lets_ok {b : Str} (h : b ∈ lets) : b.length = 2 ∧ Txt.startswith b (Str.ofString "/") = false := by
  have : ∀ b ∈ lets, b.length = 2 ∧ Txt.startswith b (Str.ofString "/") = false := by decide +kernel
  exact this b h
theorem lets_free {b : Str} (h : b ∈ lets) : Free b ∧ b ≠ Str.ofString "." ∧ b ≠ Str.ofString ".." := by
  have : ∀ b ∈ lets, (∀ c ∈ b.cps.toList, c ≠ 47) ∧ b ≠ Str.ofString "." ∧ b ≠ Str.ofString ".." := by decide +kernel
  obtain ⟨h1, h2⟩ := this b h
  exact ⟨fun q => h1 47 q rfl, h2⟩
noncomputable def stepN (st : List Str) (c : Str) : List Str := if c = Str.ofString "." then st else if c = Str.ofString ".." then st.dropLast else st ++ [c]
noncomputable def stOf (x : Str) (i : Nat) : List Str := ((Txt.split (Txt.slice x (some 1) none) (Str.ofString "/")).take i).foldl stepN []
noncomputable def mid : List Str → List Str
  | [] => []
  | n :: r => Str.ofString "." :: Str.ofString "x" :: Str.ofString ".." :: n :: mid r
noncomputable def GoodN (b : Str) : Prop := Free b ∧ b.length ≠ 0
theorem good_dots : GoodN (Str.ofString ".") ∧ GoodN (Str.ofString "x") ∧ GoodN (Str.ofString "..") := by
  have : ∀ b ∈ [Str.ofString ".", Str.ofString "x", Str.ofString ".."], (∀ c ∈ b.cps.toList, c ≠ 47) ∧ b.length ≠ 0 := by decide +kernel
  exact ⟨⟨fun q => (this _ (.head _)).1 47 q rfl, (this _ (.head _)).2⟩, ⟨fun q => (this _ (.tail _ (.head _))).1 47 q rfl, (this _ (.tail _ (.head _))).2⟩, ⟨fun q => (this _ (.tail _ (.tail _ (.head _)))).1 47 q rfl, (this _ (.tail _ (.tail _ (.head _)))).2⟩⟩
theorem mid_good {r : List Str} (h : ∀ b ∈ r, b ∈ lets) : ∀ b ∈ mid r, GoodN b := by
  induction r with
  | nil => intro b hb; cases hb
  | cons n r ih =>
    intro b hb
    have hn := h n (.head _)
    simp only [mid, List.mem_cons] at hb
    rcases hb with rfl | rfl | rfl | rfl | hb
    · exact good_dots.1
    · exact good_dots.2.1
    · exact good_dots.2.2
    · exact ⟨(lets_free hn).1, by rw [(lets_ok hn).1]; decide⟩
    · exact ih (fun c hc => h c (.tail _ hc)) b hb
theorem pathOf_snoc {l : List Str} (c : Str) (hn : l ≠ []) : pathOf (l ++ [c]) = pathOf l ++ (sl ++ c) := by
  unfold pathOf
  rw [tjoin, tjoin, join_snoc l c hn, str_assoc]
theorem jn_path {l : List Str} {b c : Str} (hb : GoodN b) : jn (pathOf (l ++ [b])) c = pathOf (l ++ [b] ++ [c]) := by
  rw [pathOf_snoc c (by simp)]
  unfold jn
  have : Txt.endswith (pathOf (l ++ [b])) sl = false := by
    by_cases hl : l = []
    · subst hl
      exact ends_no (u := sl) (b := b) hb.1 hb.2
    · rw [pathOf_snoc b hl, ← str_assoc]
      exact ends_no hb.1 hb.2
  rw [if_neg (by rw [this]; exact Bool.false_ne_true)]
theorem fold_jn : ∀ (cs : List Str) (l : List Str) (b : Str), GoodN b → (∀ c ∈ cs, GoodN c) → cs.foldl jn (pathOf (l ++ [b])) = pathOf (l ++ [b] ++ cs)
  | [], l, b, _, _ => by simp
  | c :: cs, l, b, hb, hc => by
    rw [List.foldl_cons, jn_path hb, fold_jn cs (l ++ [b]) c (hc c (.head _)) fun d hd => hc d (.tail _ hd)]
    simp
theorem pathAt_mid : ∀ (r : List Str), pathAt r r.length = (mid r).foldl jn (Str.ofString "/") := by
  intro r
  unfold pathAt
  rw [List.take_of_length_le (Nat.le_refl _)]
  generalize Str.ofString "/" = y
  induction r generalizing y with
  | nil => rfl
  | cons n r ih => rw [List.foldl_cons, ih]; rfl
theorem pathAt_is {r : List Str} (h : RowOk r) : pathAt r r.length = pathOf (mid r) := by
  rw [pathAt_mid]
  have hg := mid_good h.2.2
  cases r with
  | nil => exact absurd h.1 (by decide)
  | cons n r =>
    have e : jn (Str.ofString "/") (Str.ofString ".") = pathOf ([] ++ [Str.ofString "."]) := by decide +kernel
    show (Str.ofString "x" :: Str.ofString ".." :: n :: mid r).foldl jn (jn (Str.ofString "/") (Str.ofString ".")) = _
    rw [e, fold_jn _ [] _ good_dots.1 fun c hc => hg c (.tail _ hc)]
    rfl
theorem pathOf_len (l : List Str) : toL (pathOf l) = 47 :: toL (Txt.join sl l) := by
  unfold pathOf
  rw [toL_app, toL_sl]
  rfl
theorem slice_path (l : List Str) : Txt.slice (pathOf l) (some 1) none = Txt.join sl l ∧ Txt.slice (pathOf l) none (some 1) = sl := by
  have h := pathOf_len l
  have h1 : 1 ≤ (pathOf l).length := by rw [← toL_len, h]; simp
  refine ⟨toL_inj ?_, toL_inj ?_⟩
  · rw [slice_from h1, h]; rfl
  · rw [slice_to h1, h, toL_sl]; rfl
theorem split_path {l : List Str} (hn : l ≠ []) (hf : ∀ a ∈ l, Free a) : Txt.split (Txt.slice (pathOf l) (some 1) none) sl = l := by
  rw [(slice_path l).1, split_join hn hf]
noncomputable def okStep (st : List Str) (c : Str) : Prop := (c = Str.ofString "." ∧ stepN st c = st) ∨ ((c.length : Int) ≠ 0 ∧ c.length ≤ 1000 ∧ (c == Str.ofString ".") = false ∧ (c != Str.ofString "..") = true ∧ stepN st c = st ++ [c]) ∨
    (c = Str.ofString ".." ∧ ∃ cs d, st = cs ++ [d] ∧ (d == Str.ofString "..") = false ∧ stepN st c = cs)
theorem ok_name {st : List Str} {c : Str} (h1 : c ≠ Str.ofString ".") (h2 : c ≠ Str.ofString "..") (h3 : c.length ≠ 0) (h4 : c.length ≤ 1000) : okStep st c :=
  .inr (.inl ⟨by lia, h4, beq_eq_false_iff_ne.mpr h1, bne_iff_ne.mpr h2, by unfold stepN; rw [if_neg h1, if_neg h2]⟩)
theorem x_not : Str.ofString "x" ≠ Str.ofString "." ∧ Str.ofString "x" ≠ Str.ofString ".." ∧ (Str.ofString "x").length = 1 ∧ Str.ofString ".." ≠ Str.ofString "." := by decide +kernel
theorem step_x (st : List Str) : stepN st (Str.ofString "x") = st ++ [Str.ofString "x"] := by unfold stepN; rw [if_neg x_not.1, if_neg x_not.2.1]
theorem step_dot (st : List Str) : stepN st (Str.ofString ".") = st := by unfold stepN; rw [if_pos rfl]
theorem step_up (st : List Str) : stepN st (Str.ofString "..") = st.dropLast := by unfold stepN; rw [if_neg x_not.2.2.2, if_pos rfl]
theorem step_name {st : List Str} {n : Str} (h : n ∈ lets) : stepN st n = st ++ [n] := by unfold stepN; rw [if_neg (lets_free h).2.1, if_neg (lets_free h).2.2]
theorem mid_fold : ∀ (r : List Str), (∀ b ∈ r, b ∈ lets) → ∀ st, (mid r).foldl stepN st = st ++ r
  | [], _, st => by simp [mid]
  | n :: r, h, st => by
    show (mid r).foldl stepN (stepN (stepN (stepN (stepN st (Str.ofString ".")) (Str.ofString "x")) (Str.ofString "..")) n) = _
    rw [step_dot, step_x, step_up, List.dropLast_concat, step_name (h n (.head _)), mid_fold r (fun c hc => h c (.tail _ hc))]
    simp
theorem mid_steps : ∀ (r : List Str), (∀ b ∈ r, b ∈ lets) → ∀ st i c, (mid r)[i]? = some c → okStep (((mid r).take i).foldl stepN st) c
  | [], _, st, i, c, h => by simp [mid] at h
  | n :: r, hr, st, i, c, h => by
    have hn := hr n (.head _)
    match i with
    | 0 => obtain rfl := Option.some.inj h; exact .inl ⟨rfl, step_dot _⟩
    | 1 => obtain rfl := Option.some.inj h; exact ok_name x_not.1 x_not.2.1 (by rw [x_not.2.2.1]; decide) (by rw [x_not.2.2.1]; decide)
    | 2 =>
      obtain rfl := Option.some.inj h
      refine .inr (.inr ⟨rfl, st, Str.ofString "x", ?_, beq_eq_false_iff_ne.mpr x_not.2.1, ?_⟩)
      · show stepN (stepN st (Str.ofString ".")) (Str.ofString "x") = _
        rw [step_dot, step_x]
      · show stepN (stepN (stepN st (Str.ofString ".")) (Str.ofString "x")) (Str.ofString "..") = _
        rw [step_dot, step_x, step_up, List.dropLast_concat]
    | 3 => obtain rfl := Option.some.inj h; exact ok_name (lets_free hn).2.1 (lets_free hn).2.2 (by rw [(lets_ok hn).1]; decide) (by rw [(lets_ok hn).1]; decide)
    | i + 4 =>
      have ih := mid_steps r (fun c hc => hr c (.tail _ hc)) (st ++ [n]) i c h
      show okStep (((mid r).take i).foldl stepN (stepN (stepN (stepN (stepN st (Str.ofString ".")) (Str.ofString "x")) (Str.ofString "..")) n)) c
      rw [step_dot, step_x, step_up, List.dropLast_concat, step_name hn]
      exact ih
theorem fold_short : ∀ (cs st : List Str), (cs.foldl stepN st).length ≤ st.length + cs.length ∧ ∀ y ∈ cs.foldl stepN st, y ∈ st ∨ y ∈ cs
  | [], st => ⟨by simp, fun y hy => .inl hy⟩
  | c :: cs, st => by
    obtain ⟨h1, h2⟩ := fold_short cs (stepN st c)
    have h3 : (stepN st c).length ≤ st.length + 1 ∧ ∀ y ∈ stepN st c, y ∈ st ∨ y = c := by
      unfold stepN
      split
      · exact ⟨by (exact Ar.go [_] [] 1 (.V 0) (.P (.V 0) (.N 1)) rfl), fun y hy => .inl hy⟩
      · split
        · exact ⟨by simp; (exact Ar.go [_] [] 1 (.V 0) (.P (.P (.V 0) (.N 1)) (.N 1)) rfl), fun y hy => .inl (List.dropLast_subset _ hy)⟩
        · exact ⟨by simp, fun y hy => by simpa using hy⟩
    refine ⟨by rw [List.foldl_cons, List.length_cons]; (exact Ar.go [_, _, _, _] [(.V 0, .P (.V 3) (.V 2), 1), (.V 3, .P (.V 1) (.N 1), 1)] 1 (.V 0) (.P (.V 1) (.P (.V 2) (.N 1))) rfl h1 h3.1), fun y hy => ?_⟩
    rcases h2 y hy with h | h
    · rcases h3.2 y h with h | rfl
      · exact .inl h
      · exact .inr (.head _)
    · exact .inr (.tail _ h)
theorem mid_len : ∀ r : List Str, (mid r).length = 4 * r.length
  | [] => rfl
  | n :: r => by simp only [mid, List.length_cons, mid_len r]; (exact Nat.le_antisymm (Ar.go [_] [] 1 (.P (.P (.P (.P (.L 4 (.V 0)) (.N 1)) (.N 1)) (.N 1)) (.N 1)) (.L 4 (.P (.V 0) (.N 1))) rfl) (Ar.go [_] [] 1 (.L 4 (.P (.V 0) (.N 1))) (.P (.P (.P (.P (.L 4 (.V 0)) (.N 1)) (.N 1)) (.N 1)) (.N 1)) rfl))
theorem mid_short {r : List Str} (h : ∀ b ∈ r, b ∈ lets) : ∀ b ∈ mid r, b.length ≤ 1000 := by
  have h3 : (Str.ofString ".").length ≤ 1000 ∧ (Str.ofString "x").length ≤ 1000 ∧ (Str.ofString "..").length ≤ 1000 := by decide +kernel
  induction r with
  | nil => intro b hb; cases hb
  | cons n r ih =>
    intro b hb
    have hn := h n (.head _)
    simp only [mid, List.mem_cons] at hb
    rcases hb with rfl | rfl | rfl | rfl | hb
    · exact h3.1
    · exact h3.2.1
    · exact h3.2.2
    · rw [(lets_ok hn).1]; decide
    · exact ih (fun c hc => h c (.tail _ hc)) b hb
theorem join_two {l : List Str} (hb : ∀ y ∈ l, y.length = 2) : (Txt.join sl l).length ≤ 3 * l.length := by
  have h1 := StrLaws.join_length_le sl l
  have h3 : sl.length = 1 := by rw [sl_eq]; rfl
  have h4 : ∀ l : List Str, (∀ y ∈ l, y.length = 2) → (l.map (·.length)).sum = 2 * l.length := by
    intro l
    induction l with
    | nil => intro _; rfl
    | cons y l ih =>
      intro hl
      rw [List.map_cons, List.sum_cons, ih fun z hz => hl z (.tail _ hz), hl y (.head _), List.length_cons]
      (exact Nat.le_antisymm (Ar.go [_] [] 1 (.P (.N 2) (.L 2 (.V 0))) (.L 2 (.P (.V 0) (.N 1))) rfl) (Ar.go [_] [] 1 (.L 2 (.P (.V 0) (.N 1))) (.P (.N 2) (.L 2 (.V 0))) rfl))
  rw [tjoin]
  rw [h4 l hb, h3] at h1
  (exact Ar.go [_, _] [(.V 0, .P (.L 2 (.V 1)) (.R 1 (.V 1)), 1)] 1 (.V 0) (.L 3 (.V 1)) rfl h1)
theorem path_ok {r : List Str} (h : RowOk r) : Norms (pathAt r r.length) (stOf (pathAt r r.length)) ∧ Str.ofString "/" ++ Txt.join (Str.ofString "/") (stOf (pathAt r r.length) (Txt.split (Txt.slice (pathAt r r.length) (some 1) none) (Str.ofString "/")).length) = pathOf r := by
  rw [pathAt_is h]
  have hg := mid_good h.2.2
  have hn : mid r ≠ [] := by
    intro q
    have := mid_len r
    rw [q] at this
    have := h.1
    simp at *
    lia
  have hs : Txt.split (Txt.slice (pathOf (mid r)) (some 1) none) (Str.ofString "/") = mid r := split_path hn fun a ha => (hg a ha).1
  have hst : ∀ i, stOf (pathOf (mid r)) i = ((mid r).take i).foldl stepN [] := fun i => by unfold stOf; rw [hs]
  have hfin : stOf (pathOf (mid r)) (mid r).length = r := by rw [hst, List.take_of_length_le (Nat.le_refl _), mid_fold r h.2.2]; rfl
  have hml := mid_len r
  refine ⟨⟨?_, ?_, ?_, fun i => ?_, fun i y hy => ?_, ?_, fun i c hc => ?_⟩, ?_⟩
  · rw [(slice_path (mid r)).2]; simp
  · refine bne_iff_ne.mpr fun q => ?_
    have q2 := congrArg toL q
    cases r with
    | nil => exact hn rfl
    | cons n r =>
      have hp := pathOf_len (mid (n :: r))
      have hj : toL (Txt.join sl (mid (n :: r))) = 46 :: 47 :: toL (Str.join sl (Str.ofString "x" :: Str.ofString ".." :: n :: mid r)) := by
        rw [tjoin]
        show toL (Str.join sl (Str.ofString "." :: Str.ofString "x" :: Str.ofString ".." :: n :: mid r)) = _
        rw [toL_join, show toL (Str.ofString ".") = [46] by decide +kernel]
        rfl
      rw [hj] at hp
      have h2 : 2 ≤ (pathOf (mid (n :: r))).length := by rw [← toL_len, hp]; simp
      rw [slice_mid h2, hp, toL_sl] at q2
      simp at q2
  · rw [hst]; rfl
  · rw [hst]
    have := (fold_short ((mid r).take i) []).1
    have h4 := h.2.1
    rw [List.length_take] at this
    simp at this
    (exact Ar.go [_, _, _, _] [(.V 1, .L 4 (.V 2), 1), (.V 2, .N 4, 4), (.V 0, .V 3, 1), (.V 3, .V 1, 1)] 1 (.V 0) (.N 1000) rfl (Nat.le_of_eq hml) h4 this (Nat.min_le_right _ _))
  · rw [hst] at hy
    rcases (fold_short ((mid r).take i) []).2 y hy with q | q
    · cases q
    · exact mid_short h.2.2 y (List.mem_of_mem_take q)
  · rw [hs, hfin]
    have := join_two (l := r) fun y hy => (lets_ok (h.2.2 y hy)).1
    have h4 := h.2.1
    change (Txt.join (Str.ofString "/") r).length ≤ _ at this
    (exact Ar.go [_, _] [(.V 1, .N 4, 3), (.V 0, .L 3 (.V 1), 1)] 1 (.V 0) (.N 1000000) rfl h4 this)
  · rw [hs] at hc
    have q := mid_steps r h.2.2 [] i c hc
    have e : stOf (pathOf (mid r)) (i + 1) = stepN (((mid r).take i).foldl stepN []) c := by
      rw [hst, List.take_add_one, hc, Option.toList_some, List.foldl_append]
      rfl
    rw [e, hst]
    exact q
  · rw [hs, hfin]; rfl
theorem join_ok {r : List Str} (h : RowOk r) : JoinOk (Str.ofString "/") r = true := joinOk_of (by decide +kernel) (Nat.le_trans h.2.1 (by decide)) fun y hy => by rw [(lets_ok (h.2.2 y hy)).1]; decide
theorem parts_ok {r : List Str} (h : RowOk r) : partsOf (pathOf r) = r := by
  unfold partsOf
  have hr : r ≠ [] := fun q => by rw [q] at h; exact absurd h.1 (by decide)
  have e : pathOf r = Txt.join sl (Str.empty :: r) := by
    cases r with
    | nil => exact absurd rfl hr
    | cons n r =>
      unfold pathOf
      rw [tjoin, tjoin, sjoin_cons]
      refine toL_inj ?_
      simp only [toL_app]
      rfl
  have hfr : ∀ a ∈ r, Free a := fun a ha => (lets_free (h.2.2 a ha)).1
  rw [e, split_join (List.cons_ne_nil _ _) fun a ha => by
    rcases List.mem_cons.mp ha with rfl | ha
    · intro q; cases q
    · exact hfr a ha]
  rw [List.filter_cons, if_neg (by decide +kernel)]
  refine List.filter_eq_self.mpr fun a ha => ?_
  unfold partOk
  have h2 := (lets_ok (h.2.2 a ha)).1
  have h3 := (lets_free (h.2.2 a ha)).2.1
  rw [Bool.and_eq_true]
  exact ⟨decide_eq_true (by lia), bne_iff_ne.mpr h3⟩
structure TextOk (x : Str) : Prop where
  len : x.length ≤ 12
  pos : 0 < x.length
  three : x.length % 3 = 0
  ascii : ∀ c ∈ x.cps.toList, c < 128
  slash : Txt.startswith x (Str.ofString "/") = true
noncomputable def chkBase (r : List Str) : Bool := let x := pathOf r; decide (x.length ≤ 12) && decide (0 < x.length) && decide (x.length % 3 = 0) && x.cps.toList.all (fun c => decide (c < 128)) && Txt.startswith x (Str.ofString "/")
theorem all_base : allRows.all chkBase = true := by decide +kernel
theorem text_ok {r : List Str} (h : RowOk r) : TextOk (pathOf r) := by
  have q := List.all_eq_true.mp all_base r (mem_allRows h)
  unfold chkBase at q
  simp only [Bool.and_eq_true, decide_eq_true_eq, List.all_eq_true] at q
  exact ⟨q.1.1.1.1, q.1.1.1.2, q.1.1.2, q.1.2, q.2⟩
theorem swap2_get {b : Array UInt8} {n m : Nat} (hn : 0 < n) (hm : 0 < m) (h1 : b.size % n = 0) (h2 : b.size % m = 0) : swapB (swapB b n) m = ((List.range b.size).map fun k => b[sig n (sig m k)]!).toArray := by
  refine arr_ext (by simp [swapB_size]) fun k hk => ?_
  rw [swapB_size, swapB_size] at hk
  rw [swapB_get hm (by rw [swapB_size]; exact h2) (by rw [swapB_size]; exact hk), swapB_get hn h1 (sig_lt hm h2 hk)]
  simp [getElem!_def, hk]
noncomputable def chkTurn (r : List Str) : Bool := decide (((List.range (pathOf r).length).map fun k => (pathOf r).cps[sig (pathOf r).length (sig 3 k)]!) = (pathOf r.reverse).cps.toList)
theorem all_turn : allRows.all chkTurn = true := by decide +kernel
theorem turn_ok {r : List Str} (h : RowOk r) : turnText (pathOf r) = pathOf r.reverse := by
  have q := of_decide_eq_true (List.all_eq_true.mp all_turn r (mem_allRows h))
  have T := text_ok h
  have hs := octs_size (pathOf r)
  refine toL_inj ?_
  unfold toL
  rw [← q]
  unfold turnText
  rw [swap2_get T.pos (by decide) (by rw [hs, Nat.mod_self]) (by rw [hs]; exact T.three), hs]
  show (Array.map _ _).toList = _
  rw [Array.toList_map, List.map_map]
  refine List.map_congr_left fun k hk => ?_
  have hk2 := List.mem_range.mp hk
  have h3 : sig 3 k < (pathOf r).length := sig_lt (by decide) T.three hk2
  have h4 : sig (pathOf r).length (sig 3 k) < (pathOf r).length := sig_lt T.pos (Nat.mod_self _) h3
  show ((octs (pathOf r))[sig (pathOf r).length (sig 3 k)]!).toNat = _
  generalize sig (pathOf r).length (sig 3 k) = j at h4 ⊢
  have h5 : j < (pathOf r).cps.size := h4
  have hc := T.ascii ((pathOf r).cps[j]) (Array.getElem_mem_toList h5)
  have e1 : (octs (pathOf r))[j]! = ((pathOf r).cps[j]).toUInt8 := by
    unfold octs
    simp [getElem!_def, h5]
  have e2 : (pathOf r).cps[j]! = (pathOf r).cps[j] := by simp [getElem!_def, h5]
  rw [e1, e2]
  simp
  (exact Ar.go [_] [(.P (.V 0) (.N 1), .N 128, 1)] 1 (.P (.V 0) (.N 1)) (.N 256) rfl hc)
noncomputable def chkCut (r : List Str) : Bool := decide (Txt.slice (pathOf r.reverse) (some (Txt.rfind (pathOf r.reverse) (Str.ofString "/") + 1)) none = r.headD (Str.ofString "")) && decide (dirOf (pathOf r.reverse) = pathOf (r.drop 1).reverse)
theorem all_cut : allRows.all chkCut = true := by decide +kernel
theorem base_ok {r : List Str} (h : RowOk r) : Txt.slice (pathOf r.reverse) (some (Txt.rfind (pathOf r.reverse) (Str.ofString "/") + 1)) none = r.headD (Str.ofString "") :=
  of_decide_eq_true (Bool.and_eq_true_iff.mp (List.all_eq_true.mp all_cut r (mem_allRows h))).1
theorem dir_ok {r : List Str} (h : RowOk r) : dirOf (pathOf r.reverse) = pathOf (r.drop 1).reverse :=
  of_decide_eq_true (Bool.and_eq_true_iff.mp (List.all_eq_true.mp all_cut r (mem_allRows h))).2
end Mine
end
section
open PySem PySem.Calls PySem.W PyProof.Rows
namespace Mine
section
variable {prog : Program} {w : World} {M : Model} {A : Around} {E : Value → Shared → Prop} {s : Shared} {env : Env}
theorem wpG_And3 {a b c : Expr} {pos : Pos} {Q : Value → Shared → Prop}
    (h : wpG M A (eval a env) (fun v s₁ => wpAny M A (truthy v) (fun t s₂ => if t then
      wpG M A (eval b env) (fun v s₃ => wpAny M A (truthy v) (fun t s₄ => if t then wpG M A (eval c env) Q E s₄ else Q v s₄) E s₃) E s₂ else Q v s₂) E s₁) E s) : wpG M A (eval (.BoolOp .And [a, b, c] pos) env) Q E s := by
  show wpG M A (boolOp pos .And [eval a env, eval b env, eval c env]) Q E s
  refine wpG_and_cons (wpG_mono h (fun v s₁ h₁ => wpAny_mono h₁ (fun t s₂ h₂ => ?_) fun _ _ x => x) fun _ _ x => x)
  cases t with
  | false => exact h₂
  | true =>
    rw [if_pos rfl] at h₂ ⊢
    refine wpG_and_cons (wpG_mono h₂ (fun v s₁ h₁ => wpAny_mono h₁ (fun t s₂ h₂ => ?_) fun _ _ x => x) fun _ _ x => x)
    cases t with
    | false => exact h₂
    | true => exact h₂
end
end Mine
end
section
open PySem PySem.Calls PySem.W PyProof.Rows
set_option genInjectivity false
set_option genSizeOf false
namespace Mine
section
variable {M : Model} {A : Around} {E : Value → Shared → Prop} {s : Shared} {env : Env}
theorem wpG_attempt {α : Type} {m : Sem α} {Q : Except Value α → Shared → Prop} (h : wpG M A m (fun a => Q (.ok a)) (fun e => Q (.error e)) s) : wpG M A m.attempt Q E s := fun Γ p hΓ g => by rw [Sem.wp_attempt]; exact h Γ p hΓ g
theorem comprehension_G {e : Expr} {scope : Scope} {pos : Pos} {newAcc first : Sem Value} {g : Comprehension} {gs : List Comprehension} {cl : List (Str × Addr)} {Q : Value → Shared → Prop}
    (hcl : clausesOf e = g :: gs) (hs : ∀ x, foldedSetIterable g.iter env x = pure x) (hclos : closureFor scope env = pure cl)
    (hkind : scope.kind = .function) (hnames : ∀ x ∈ scope.names, x.2 = .local → scope.names.lookup x.1 = some .local)
    (h : wpAny M A first (fun x s₁ => wpAny M A (pyIter x) (fun it s₂ => wpAny M A newAcc (fun acc s₃ =>
      wpAny M A (newFunctionEnv scope env.globals cl [] env.qual none .none (some env)) (fun cenv s₄ =>
        codeG M A (.compStart e 0 it acc { cenv with scope := relabel scope env }) (fun r s' => match r with
          | .ok _ => ∃ m, s'.heap.Ns cenv.locals m ∧ ∀ h', Heap.SameBut cenv.locals s'.heap h' → Q acc { s' with heap := h' }
          | .error _ => False) s₄) E s₃) E s₂) E s₁) E s) :
    wpG M A (comprehension e scope env pos newAcc false first none) Q E s := by
  unfold comprehension
  rw [hclos, hcl]
  refine wpG_then (wpAny_mono h (fun x s₁ h₁ => wpG_then (wpAny_standAt (wpG_then (wpAny_of_eq (hs x) (wpG_then (wpAny_holding (wpAny_mono h₁ (fun it s₂ h₂ =>
    ?_) fun _ _ h' => h'))))))) fun _ _ h' => h')
  refine wpG_then (wpAny_mono h₂ (fun acc s₃ h₃ => wpG_then (wpAny_pure (wpG_then (wpAny_mono h₃ (fun cenv s₄ h₄ => ?_) fun _ _ h' => h')))) fun _ _ h' => h')
  dsimp only
  have hv : ∀ x ∈ (scope.names.filter fun x => (x.2 == .local || x.2 == .cell) && x.1 != (".0" : Str)).reverse, x.2 = .local →
      Env.kindOf { cenv with scope := relabel scope env } x.1 = some .local := fun x hx hl => lookup_relabel_local (hnames x (List.mem_filter.mp (List.mem_reverse.mp hx)).1 hl)
  refine wpG_holding (wpG_bind (wpG_attempt (wpG_holding (wpG_run rfl (codeG_mono h₄ fun r s' hr => ?_)))))
  cases r with
  | ok f =>
    obtain ⟨m, hn, hr⟩ := hr
    exact wpG_any (wpAny_bind (wpAny_holding (wpAny_comp_letGo (cenv := { cenv with scope := relabel scope env }) hkind _ s' m hv hn fun h' m' _ hs' => wpAny_pure (hr h' hs'))))
  | error x => exact hr.elim
end
section
variable {prog : Program} {w : World} {A : Around} {s : Shared} {env : Env}
theorem codeG_compLoop1 {R : Result → Shared → Prop} {elt target iter : Expr} {scope : Scope} {pos : Pos} {it acc : Value} (J : Nat → Shared → Prop)
    (turn : ∀ n s, J n s → wpAny (model prog w) A (pyNext it) (fun r s₁ => match r with
      | none => R (.ok .next) s₁
      | some v => wpAny (model prog w) A (assign target env v) (fun _ s₂ => wpG (model prog w) A (eval elt env) (fun y s₃ => wpAny (model prog w) A (call (.builtin "list.append") [acc, y]) (fun _ s₄ => ∃ m, m < n ∧ J m s₄) NoE s₃) NoE s₂) NoE s₁) NoE s)
    (n : Nat) (h : J n s) (ht : ∀ v, letOwnedTupleGo target it v = pure () := by intro _; rfl) : codeG (model prog w) A (.compLoop (.ListComp elt [⟨target, iter, [], 0⟩] scope pos) 0 it acc env) R s := by
  induction n using Nat.strongRecOn generalizing s with
  | ind n ih =>
    refine codeG_of_tree ?_
    show wpG _ A ((compTurn (.ListComp elt [⟨target, iter, [], 0⟩] scope pos) 0 it acc env).onRaise (fun x => do noteFrame x env; theTreesLotGoes x)) _ _ s
    refine wpG_onRaise (wpG_mono (E := NoE) ?_ (fun _ _ x => x) fun _ _ x => x.elim)
    rw [compTurn_list1]
    refine wpG_then (wpAny_standAt (wpG_then (wpAny_mono (turn n s h) (fun r s₁ h₁ => ?_) fun _ _ x => x)))
    cases r with
    | none => exact wpG_pure h₁
    | some v =>
      refine wpG_then (wpAny_of_eq (ht v) (wpG_then (wpAny_mono h₁ (fun _ s₂ h₂ => wpG_bind (wpG_bind (wpG_mono h₂ (fun y s₃ h₃ => wpG_then (wpAny_mono h₃ (fun _ s₄ h₄ => ?_) fun _ _ x => x)) fun _ _ x => x))) fun _ _ x => x)))
      obtain ⟨m, hm, hJ⟩ := h₄
      exact wpG_pure (wpG_pure ⟨rfl, rfl, ih m hm hJ⟩)
theorem codeG_compLoopT {R : Result → Shared → Prop} {elt target iter c : Expr} {scope : Scope} {pos : Pos} {it acc : Value} (J : Nat → Shared → Prop)
    (turn : ∀ n s, J n s → wpAny (model prog w) A (pyNext it) (fun r s₁ => match r with
      | none => R (.ok .next) s₁
      | some v => wpAny (model prog w) A (assign target env v) (fun _ s₂ => wpG (model prog w) A (isTrue c env (eval c env)) (fun ok s₃ => ok = false ∧ ∃ m, m < n ∧ J m s₃) NoE s₂) NoE s₁) NoE s)
    (n : Nat) (h : J n s) (ht : ∀ v, letOwnedTupleGo target it v = pure () := by intro _; rfl) : codeG (model prog w) A (.compLoop (.ListComp elt [⟨target, iter, [c], 0⟩] scope pos) 0 it acc env) R s := by
  induction n using Nat.strongRecOn generalizing s with
  | ind n ih =>
    refine codeG_of_tree ?_
    show wpG _ A ((compTurn (.ListComp elt [⟨target, iter, [c], 0⟩] scope pos) 0 it acc env).onRaise (fun x => do noteFrame x env; theTreesLotGoes x)) _ _ s
    refine wpG_onRaise (wpG_mono (E := NoE) ?_ (fun _ _ x => x) fun _ _ x => x.elim)
    rw [compTurn_list]
    refine wpG_then (wpAny_standAt (wpG_then (wpAny_mono (turn n s h) (fun r s₁ h₁ => ?_) fun _ _ x => x)))
    cases r with
    | none => exact wpG_pure h₁
    | some v =>
      refine wpG_then (wpAny_of_eq (ht v) (wpG_then (wpAny_mono h₁ (fun _ s₂ h₂ => ?_) fun _ _ x => x)))
      dsimp only
      rw [List.forIn_cons]
      refine wpG_bind (wpG_bind ?_)
      rw [if_pos rfl]
      refine wpG_bind (wpG_mono h₂ (fun ok s₃ h₃ => ?_) fun _ _ x => x)
      obtain ⟨rfl, m, hm, hJ⟩ := h₃
      refine wpG_pure ?_
      dsimp only
      rw [List.forIn_nil]
      refine wpG_pure ?_
      rw [if_neg Bool.false_ne_true]
      exact wpG_pure ⟨rfl, rfl, ih m hm hJ⟩
theorem codeG_compStart {R : Result → Shared → Prop} {elt target iter : Expr} {ifs : List Expr} {rest : List Comprehension} {scope : Scope} {pos : Pos} {it acc : Value}
    (h0 : codeG (model prog w) A (.compLoop (.ListComp elt (⟨target, iter, ifs, 0⟩ :: rest) scope pos) 0 it acc env) R s)
    (h : wpAny (model prog w) A (pyIter it) (fun it' s' => codeG (model prog w) A (.compLoop (.ListComp elt (⟨target, iter, ifs, 0⟩ :: rest) scope pos) 0 it' acc env) R s') NoE s) :
    codeG (model prog w) A (.compStart (.ListComp elt (⟨target, iter, ifs, 0⟩ :: rest) scope pos) 0 it acc env) R s := by
  refine codeG_of_tree ?_
  show wpG _ A ((compStart (.ListComp elt (⟨target, iter, ifs, 0⟩ :: rest) scope pos) 0 it acc env).onRaise (fun x => do noteFrame x env; standAt theWindowsPlace)) _ _ s
  refine wpG_onRaise (wpG_mono (E := NoE) ?_ (fun _ _ x => x) fun _ _ x => x.elim)
  unfold compStart
  show wpG _ _ (ask >>= _) _ _ s
  refine wpG_then (wpAny_askSetting (wpG_ite (fun _ => wpG_pure ⟨rfl, rfl, h0⟩) fun _ => ?_))
  refine wpG_then (wpAny_rule ?_)
  show wpG _ _ (standAt iter.pos >>= _) _ _ s
  exact wpG_then (wpAny_standAt (wpG_then (wpAny_mono h (fun it' s' h' => wpG_pure ⟨rfl, rfl, h'⟩) fun _ _ x => x)))
noncomputable def CompAt (prog : Program) (w : World) (A : Around) (env : Env) (elt iter : Expr) (x : Str) (px : Pos) (ifs : List Expr) (scope : Scope) (cl : List (Str × Addr)) (pos : Pos) (Q E : Value → Shared → Prop) (v : Value) (s₁ : Shared) : Prop :=
  wpAny (model prog w) A (pyIter v) (fun it s₂ => wpAny (model prog w) A (newList []) (fun acc s₃ => wpAny (model prog w) A (newFunctionEnv scope env.globals cl [] env.qual none .none (some env)) (fun cenv s₄ =>
    codeG (model prog w) A (.compStart (.ListComp elt [⟨.Name x px, iter, ifs, 0⟩] scope pos) 0 it acc { cenv with scope := relabel scope env }) (fun r s' => match r with
      | .ok _ => ∃ m, s'.heap.Ns cenv.locals m ∧ ∀ h', Heap.SameBut cenv.locals s'.heap h' → Q acc { s' with heap := h' }
      | .error _ => False) s₄) E s₃) E s₂) E s₁
theorem ListComp_open {elt iter : Expr} {x : Str} {px : Pos} {ifs : List Expr} {scope : Scope} {cl : List (Str × Addr)} {pos : Pos} {Q E : Value → Shared → Prop} (hclos : closureFor scope env = pure cl) (hkind : scope.kind = .function)
    (hnames : ∀ y ∈ scope.names, y.2 = .local → scope.names.lookup y.1 = some .local) (h : wpAny (model prog w) A (eval iter env) (CompAt prog w A env elt iter x px ifs scope cl pos Q E) E s)
    (hs : ∀ x, foldedSetIterable iter env x = pure x := by intro _; rfl) : wpG (model prog w) A (eval (.ListComp elt [⟨.Name x px, iter, ifs, 0⟩] scope pos) env) Q E s := by
  rw [eval_ListComp]
  exact comprehension_G rfl hs hclos hkind hnames h
inductive CompInv (s : Shared) (vs : List Value) (ax I : Addr) (h₀ : Heap) (L : Addr) (m : Str → Option Value) (C D : Addr) (news : List (Addr × Obj)) (J : Nat → List Value → Prop) : Nat → Shared → Prop
  | mk (h' : Heap) (tk i : Nat) (ys : List Value) (m' : Str → Option Value) (hi : i ≤ vs.length) (hJ : J i ys) (hst : h'.IsListIter I ax i ∧ h'.IsList ax vs.toArray) (F : Fr h₀ L h' m) (hn : h'.Ns C m') (N : News h₀ L h' ((D, LCg.lst ys) :: news)) : CompInv s vs ax I h₀ L m C D news J (vs.length + 1 - i) { s with heap := h', toks := tk }
theorem block_G {h₀ : Heap} {L ax : Addr} {m : Str → Option Value} {elt iter : Expr} {x : Str} {px : Pos} {ifs : List Expr} {scope : Scope} {cl : List (Str × Addr)} {pos : Pos} {vs : List Value} {nn : Nat} {news : List (Addr × Obj)}
    {J : Nat → List Value → Prop} {Q : Value → Shared → Prop} {E : Value → Shared → Prop} (Body : Addr → Addr → (Shared → Prop) → Shared → Prop) (bm : ∀ D C K K' s, (∀ s, K s → K' s) → Body D C K s → Body D C K' s)
    (rule : ∀ (R : Result → Shared → Prop) (I D C : Addr) (s : Shared) (JJ : Nat → Shared → Prop), (∀ n s, JJ n s → wpAny (model prog w) A (pyNext (.ref I)) (fun r s₁ => match r with
      | none => R (.ok .next) s₁
      | some v => wpAny (model prog w) A (assign (.Name x px) (compEnvC scope cl C env) v) (fun _ s₂ => Body D C (fun s' => ∃ m, m < n ∧ JJ m s') s₂) NoE s₁) NoE s) → ∀ n, JJ n s → codeG (model prog w) A (.compLoop (.ListComp elt [⟨.Name x px, iter, ifs, 0⟩] scope pos) 0 (.ref I) (.ref D) (compEnvC scope cl C env)) R s)
    (hh : A.handled = none) (F : Fr h₀ L s.heap m) (N : News h₀ L s.heap news) (hl : (ax, listOf vs.toArray nn) ∈ news) (hsz : vs.length ≤ sizeLine) (hcell : ∀ y ∈ scope.names, y.2 ≠ .cell) (hkind : scope.kind = .function)
    (hx : scope.names.lookup x = some .local) (hlen : ∀ i ys, J i ys → ys.length ≤ i) (J0 : J 0 [])
    (turn : ∀ i v ys I oI C oC D m₂ h tk (K : Shared → Prop), vs[i]? = some v → J i ys → LCg.NsObj oC m₂ → m₂ x = some v → Fr h₀ L h m → News h₀ L h ((I, oI) :: (C, oC) :: (D, LCg.lst ys) :: news) → LCg.Off3 I C D news → ((@Ne Nat I C) ∧ (@Ne Nat I D) ∧ (@Ne Nat C D)) →
      (∀ ys' h' tk', J (i + 1) ys' → Fr h₀ L h' m → News h₀ L h' ((I, oI) :: (C, oC) :: (D, LCg.lst ys') :: news) → K { s with heap := h', toks := tk' }) → Body D C K { s with heap := h, toks := tk })
    (ret : ∀ D ys h' tk', J vs.length ys → Fr h₀ L h' m → News h₀ L h' ((D, LCg.lst ys) :: news) → LCg.Off1 D news → Q (.ref D) { s with heap := h', toks := tk' }) :
    CompAt prog w A env elt iter x px ifs scope cl pos Q E (.ref ax) s := by
  unfold CompAt
  have hll : s.heap.IsList ax vs.toArray := ⟨_, (N _ hl).1, rfl, _, rfl⟩
  have hlt : ax < s.heap.objs.size := Heap.lt_size (N _ hl).1
  refine wpAny_pyIter_list hll ?_
  have up : ∀ b o, s.heap.get? b = some o → (s.heap.push { cls := .type "list_iterator", data := .fields #[.ref ax, .int 0 0] }).get? b = some o := fun b o e => Heap.get?_push_of_some _ e
  have W := Walks.list (prog := prog) (w := w) hh s.heap.objs.size ax (Nat.ne_of_lt hlt) vs.toArray
  have F2 := F.keeps up
  have N2 := N.grown up
  have hit : (s.heap.push { cls := .type "list_iterator", data := .fields #[.ref ax, .int 0 0] }).IsListIter s.heap.objs.size ax 0 ∧ (s.heap.push { cls := .type "list_iterator", data := .fields #[.ref ax, .int 0 0] }).IsList ax vs.toArray := ⟨⟨_, Heap.get?_push_size _ rfl, rfl, rfl⟩, hll.push _⟩
  have hIL : L ≠ s.heap.objs.size := Nat.ne_of_lt F.ns.lt
  have hI₀ : h₀.get? s.heap.objs.size = none := next_is_new F
  have offI : ∀ p ∈ news, p.1 ≠ s.heap.objs.size := fun p hp => Nat.ne_of_lt (Heap.lt_size (N p hp).1)
  have hIlt : s.heap.objs.size < (s.heap.push { cls := .type "list_iterator", data := .fields #[.ref ax, .int 0 0] }).objs.size := by rw [Heap.size_push]; exact Nat.lt_succ_self _
  have haxlt : ax < (s.heap.push { cls := .type "list_iterator", data := .fields #[.ref ax, .int 0 0] }).objs.size := Nat.lt_trans hlt hIlt
  try dsimp only
  generalize s.heap.push { cls := .type "list_iterator", data := .fields #[.ref ax, .int 0 0] } = H1 at *
  generalize hIe : s.heap.objs.size = I at *
  refine wpAny_newObj_type (wpAny_newFunctionEnv hcell (by intro y hy; simp at hy) (fun h₁ hns₁ hsb₁ => ?_) hkind)
  dsimp only at hns₁ hsb₁ ⊢
  generalize hH2 : H1.push { cls := .type "list", dict := none, data := .seq ([] : List Value).toArray } = H2 at hns₁ hsb₁ ⊢
  have hC : H2.objs.size = H1.objs.size + 1 := by rw [← hH2, Heap.size_push]
  generalize hDe : H1.objs.size = D at *
  generalize hCe : H2.objs.size = C at *
  have hDClt : D < C := by (exact Ar.go [_, _] [(.P (.V 0) (.N 1), .V 1, 1)] 1 (.P (.V 0) (.N 1)) (.V 1) rfl (Nat.le_of_eq hC.symm))
  have hDC : D ≠ C := Nat.ne_of_lt hDClt
  have old : ∀ b o, H1.get? b = some o → h₁.get? b = some o := fun b o e => by
    have hb : (b : Nat) < D := hDe ▸ Heap.lt_size e
    exact hsb₁.extBut b o (Nat.ne_of_lt (Nat.lt_trans hb hDClt)) (Heap.get?_push_of_some _ (hH2 ▸ Heap.get?_push_of_some _ e))
  have hacc : h₁.get? D = some (LCg.lst []) := hsb₁.extBut _ _ hDC (Heap.get?_push_of_some _ (hH2 ▸ hDe ▸ Heap.get?_push_size _ rfl))
  have none_ : ∀ a, D ≤ a → h₀.get? a = none := fun a ha => by
    cases e : h₀.get? a with
    | none => rfl
    | some o' => exact absurd (show a < D from hDe ▸ Heap.lt_size (F2.keep a o' e)) (Nat.not_lt.mpr ha)
  have hD₀ := none_ D (Nat.le_refl _)
  have hC₀ := none_ C (by (exact Ar.go [_, _] [(.P (.V 0) (.N 1), .V 1, 1)] 1 (.V 0) (.V 1) rfl hDClt))
  have hLlt : (L : Nat) < D := hDe ▸ F2.ns.lt
  have F3 := F2.keeps old
  have offn : ∀ p ∈ news, (p.1 : Nat) < D := fun p hp => hDe ▸ Heap.lt_size (N2 p hp).1
  have off₀ : LCg.Off3 I C D news := LCg.Off3.of fun p hp => ⟨offI p hp, Nat.ne_of_lt (Nat.lt_trans (offn p hp) hDClt), Nat.ne_of_lt (offn p hp)⟩
  obtain ⟨oI₀, heI₀, _⟩ := hit.1
  have haxD : (ax : Nat) < D := haxlt
  have hIC : I ≠ C := Nat.ne_of_lt (show (I : Nat) < C by (exact Ar.go [_, _, _] [(.P (.V 0) (.N 1), .V 2, 1), (.P (.V 2) (.N 1), .V 1, 1)] 1 (.P (.V 0) (.N 1)) (.V 1) rfl hIlt hDClt))
  have hID : I ≠ D := Nat.ne_of_lt hIlt
  have hDL : D ≠ L := Nat.ne_of_gt hLlt
  have hCL : C ≠ L := Nat.ne_of_gt (Nat.lt_trans hLlt hDClt)
  have hLi : LCg.SrcAt h₀ ax vs.toArray news := .inr ⟨_, hl, rfl, _, rfl⟩
  have loop : codeG (model prog w) A (.compLoop (.ListComp elt [⟨.Name x px, iter, ifs, 0⟩] scope pos) 0 (.ref I) (.ref D) (compEnvC scope cl C env)) (fun r s' => match r with
          | .ok _ => ∃ m, s'.heap.Ns C m ∧ ∀ h', Heap.SameBut C s'.heap h' → Q (.ref D) { s' with heap := h' }
          | .error _ => False) { s with heap := h₁, toks := s.toks + ([] : List (Str × Value)).length } := by
    refine rule _ I D C _ (CompInv s vs ax I h₀ L m C D news J) ?_ (vs.length + 1)
      (.mk h₁ _ 0 [] _ (Nat.zero_le _) J0 ⟨hit.1.at (old _), hit.2.at (old _)⟩ F3 hns₁ (fun p hp => ?_))
    · rintro k s' ⟨h', tk, i, ys, m', hi', hJ, hst, F', hn', N'⟩
      by_cases hlt' : i < vs.length
      · refine W.item i _ _ _ (by simpa using hlt') hst fun v h₂ tk₂ hPv hst₂ hk₂ => ?_
        refine wpAny_assign_Name (wpAny_storeName_local (lookup_relabel_local hx) (hn'.at' fun o e => hk₂ _ o (by simpa using Ne.symm hIC) e) (fun h₃ hn₃ hs₃ => ?_) (by simp [compEnvC, relabel, hkind]))
        have hCax : ax ≠ C := Nat.ne_of_lt (Nat.lt_trans haxD hDClt)
        have hst₃ : h₃.IsListIter I ax (i + 1) ∧ h₃.IsList ax vs.toArray := ⟨hst₂.1.extBut hs₃.extBut hIC, hst₂.2.extBut hs₃.extBut hCax⟩
        obtain ⟨oI, heI, _⟩ := hst₃.1
        obtain ⟨oC, heC, hoC⟩ := LCg.ns_obj hn₃
        have F₃ : Fr h₀ L h₃ m := (LCg.fr_but F' hk₂ hIL hI₀).change hs₃ hCL hC₀
        have off3 := off₀.mem
        have N₂ : News h₀ L h₂ ((D, LCg.lst ys) :: news) := LCg.news_but N' hk₂ fun p hp => by
          rcases List.mem_cons.mp hp with rfl | hp
          · exact Ne.symm hID
          · exact (off3 p hp).1
        have N₃ : News h₀ L h₃ ((I, oI) :: (C, oC) :: (D, LCg.lst ys) :: news) := fun p hp => by
          rcases List.mem_cons.mp hp with rfl | hp
          · exact ⟨heI, Ne.symm hIL, hI₀⟩
          · rcases List.mem_cons.mp hp with rfl | hp
            · exact ⟨heC, hCL, hC₀⟩
            · have z := N₂ p hp
              refine ⟨hs₃.extBut _ _ ?_ z.1, z.2⟩
              rcases List.mem_cons.mp hp with rfl | hp
              · exact hDC
              · exact (off3 p hp).2.1
        refine turn i v ys I oI C oC D _ h₃ _ _ (by simpa using hPv) hJ hoC (by simp) F₃ N₃ off₀ ⟨hIC, hID, Ne.symm hDC⟩ fun ys' h₄ tk₄ hJ' F₄ N₄ => ?_
        have zI := (N₄ (I, oI) List.mem_cons_self).1
        have zC := (N₄ (C, oC) (List.mem_cons_of_mem _ List.mem_cons_self)).1
        have N₄' : News h₀ L h₄ ((D, LCg.lst ys') :: news) := fun p hp => N₄ p (List.mem_cons_of_mem _ (List.mem_cons_of_mem _ hp))
        exact ⟨vs.length + 1 - (i + 1), by (exact Ar.go [_, _, _, _] [(.P (.V 2) (.N 1), .P (.V 1) (.V 3), 1), (.P (.V 0) (.P (.V 3) (.N 1)), .P (.V 2) (.N 1), 1)] 1 (.P (.V 0) (.N 1)) (.V 1) rfl (Ar.up _ _) (Ar.dn (Ar.go [_, _] [(.V 0, .V 1, 1)] 1 (.P (.V 0) (.N 1)) (.P (.V 1) (.N 1)) rfl hi'))), .mk h₄ tk₄ (i + 1) ys' _ hlt' hJ' (LCg.list_st (L := L) (h₀ := h₀) (i + 1) _ _ _ news hst₃ heI zI F₄.keep (fun p hp => N₄' p (List.mem_cons_of_mem _ hp)) hLi) F₄ (hoC.ns zC) N₄'⟩
      · obtain rfl : i = vs.length := by (exact Nat.le_antisymm (Ar.go [_, _] [(.V 0, .V 1, 1)] 1 (.V 0) (.V 1) rfl hi') (Ar.go [_, _] [(.V 0, .V 1, 1)] 1 (.V 0) (.V 1) rfl (Nat.le_of_not_lt hlt')))
        refine W.done _ _ _ (by simpa using hst) fun h₂ tk₂ hk₂ => ?_
        have off3 := off₀.mem
        have F₂ := LCg.fr_but F' hk₂ hIL hI₀
        have N₂ : News h₀ L h₂ ((D, LCg.lst ys) :: news) := LCg.news_but N' hk₂ fun p hp => by
          rcases List.mem_cons.mp hp with rfl | hp
          · exact Ne.symm hID
          · exact (off3 p hp).1
        refine ⟨m', hn'.at' fun o e => hk₂ _ o (by simpa using Ne.symm hIC) e, fun h'' hs'' => ret D ys h'' tk₂ hJ (F₂.change hs'' hCL hC₀) (fun p hp => ?_) off₀.one⟩
        refine ⟨hs''.extBut _ _ ?_ (N₂ p hp).1, (N₂ p hp).2⟩
        rcases List.mem_cons.mp hp with rfl | hp
        · exact hDC
        · exact (off3 p hp).2.1
    · rcases List.mem_cons.mp hp with rfl | hp
      · exact ⟨hacc, hDL, hD₀⟩
      · exact ⟨old _ _ (N2 p hp).1, (N2 p hp).2⟩
  exact codeG_compStart loop (W.self 0 _ _ _ ⟨hit.1.at (old _), hit.2.at (old _)⟩ loop)
end
end Mine
end
section
open PySem PySem.Calls PySem.W PyProof.Rows
namespace Mine
section
variable {prog : Program} {w : World} {A : Around} {s : Shared} {env : Env} {h₀ : Heap} {L ax : Addr} {m : Str → Option Value} {elt iter c : Expr} {x : Str} {px : Pos} {scope : Scope} {cl : List (Str × Addr)} {pos : Pos} {vs : List Value} {nn : Nat} {news : List (Addr × Obj)}
    {Q : Value → Shared → Prop} {E : Value → Shared → Prop}
theorem CompAt.go {J : Nat → List Value → Prop}
    (hh : A.handled = none) (F : Fr h₀ L s.heap m) (N : News h₀ L s.heap news) (hl : (ax, listOf vs.toArray nn) ∈ news) (hsz : vs.length ≤ 1000) (hcell : ∀ y ∈ scope.names, y.2 ≠ .cell) (hkind : scope.kind = .function)
    (hx : scope.names.lookup x = some .local) (hlen : ∀ i ys, J i ys → ys.length = i) (J0 : J 0 [])
    (turn : ∀ i v ys I oI C oC D m₂ h tk, vs[i]? = some v → J i ys → LCg.NsObj oC m₂ → m₂ x = some v → Fr h₀ L h m → News h₀ L h ((I, oI) :: (C, oC) :: (D, LCg.lst ys) :: news) → LCg.Off3 I C D news → ((@Ne Nat I C) ∧ (@Ne Nat I D) ∧ (@Ne Nat C D)) →
      wpG (model prog w) A (eval elt (compEnvC scope cl C env)) (fun y s' => ∃ h' tk', s' = { s with heap := h', toks := tk' } ∧ Fr h₀ L h' m ∧ News h₀ L h' ((I, oI) :: (C, oC) :: (D, LCg.lst ys) :: news) ∧ J (i + 1) (ys ++ [y])) NoE { s with heap := h, toks := tk })
    (ret : ∀ D ys h' tk', J vs.length ys → Fr h₀ L h' m → News h₀ L h' ((D, LCg.lst ys) :: news) → LCg.Off1 D news → Q (.ref D) { s with heap := h', toks := tk' })
 :
    CompAt prog w A env elt iter x px [] scope cl pos Q E (.ref ax) s := by
  have hz : vs.length ≤ sizeLine := by rw [sizeLine_eq]; (exact Ar.go [_] [(.V 0, .N 1000, 1)] 1 (.V 0) (.N 16777216) rfl hsz)
  refine block_G (J := fun i ys => J i ys ∧ i ≤ vs.length) (fun D C K s₂ => wpG (model prog w) A (eval elt (compEnvC scope cl C env)) (fun y s₃ => wpAny (model prog w) A (call (.builtin "list.append") [.ref D, y]) (fun _ s₄ => K s₄) NoE s₃) NoE s₂)
    (fun D C K K' s hk h => wpG_mono h (fun y s₃ h₃ => wpAny_mono h₃ (fun _ s₄ h₄ => hk s₄ h₄) fun _ _ e => e) fun _ _ e => e) (fun R I D C s JJ turn n h => codeG_compLoop1 JJ (fun n s hJ => turn n s hJ) n h) hh F N hl hz hcell hkind hx (fun i ys h => Nat.le_of_eq (hlen i ys h.1)) ⟨J0, Nat.zero_le _⟩ ?_
    (fun D ys h' tk' hJ => ret D ys h' tk' hJ.1)
  intro i v ys I oI C oC D m₂ h tk K hv hJ hC hx2 F' N' off ne hK
  have hiv : i < vs.length := (List.getElem?_eq_some_iff.mp hv).1
  refine wpG_mono (turn i v ys I oI C oC D m₂ h tk hv hJ.1 hC hx2 F' N' off ne) (fun y s₃ h₃ => ?_) fun _ _ e => e
  obtain ⟨h', tk', rfl, F2, N2, J2⟩ := h₃
  have zD := N2 (D, LCg.lst ys) (List.mem_cons_of_mem _ (List.mem_cons_of_mem _ List.mem_cons_self))
  refine append_at (hsz := by show ys.toArray.size ≤ sizeLine; rw [List.size_toArray, hlen i ys hJ.1, sizeLine_eq]; (exact Ar.go [_, _] [(.V 1, .N 1000, 1), (.V 0, .V 1, 1)] 1 (.V 0) (.N 16777216) rfl hsz hJ.2)) zD.1 fun h₅ hs₅ hD₅ => ?_
  have off3 := off.mem
  refine hK (ys ++ [y]) h₅ tk' ⟨J2, hiv⟩ (F2.change hs₅ zD.2.1 zD.2.2) fun p hp => ?_
  rcases List.mem_cons.mp hp with rfl | hp
  · have z := N2 (I, oI) List.mem_cons_self
    exact ⟨hs₅.extBut _ _ ne.2.1 z.1, z.2⟩
  · rcases List.mem_cons.mp hp with rfl | hp
    · have z := N2 (C, oC) (List.mem_cons_of_mem _ List.mem_cons_self)
      exact ⟨hs₅.extBut _ _ ne.2.2 z.1, z.2⟩
    · rcases List.mem_cons.mp hp with rfl | hp
      · exact ⟨hD₅.trans (congrArg some (LCg.lst_snoc ys y)), zD.2⟩
      · have z := N2 p (List.mem_cons_of_mem _ (List.mem_cons_of_mem _ (List.mem_cons_of_mem _ hp)))
        exact ⟨hs₅.extBut _ _ (off3 p hp).2.2 z.1, z.2⟩
theorem CompAt.goT
    (hh : A.handled = none) (F : Fr h₀ L s.heap m) (N : News h₀ L s.heap news) (hl : (ax, listOf vs.toArray nn) ∈ news) (hsz : vs.length ≤ 1000) (hcell : ∀ y ∈ scope.names, y.2 ≠ .cell) (hkind : scope.kind = .function)
    (hx : scope.names.lookup x = some .local)
    (turn : ∀ (i : Nat) (v : Value) (I : Addr) (oI : Obj) (C : Addr) (oC : Obj) (D : Addr) (m₂ : Str → Option Value) (h : Heap) (tk : Nat), vs[i]? = some v → LCg.NsObj oC m₂ → m₂ x = some v → Fr h₀ L h m → News h₀ L h ((I, oI) :: (C, oC) :: (D, LCg.lst []) :: news) → LCg.Off3 I C D news → ((@Ne Nat I C) ∧ (@Ne Nat I D) ∧ (@Ne Nat C D)) →
      wpG (model prog w) A (isTrue c (compEnvC scope cl C env) (eval c (compEnvC scope cl C env))) (fun ok s' => ok = false ∧ ∃ h' tk', s' = { s with heap := h', toks := tk' } ∧ Fr h₀ L h' m ∧ News h₀ L h' ((I, oI) :: (C, oC) :: (D, LCg.lst []) :: news)) NoE { s with heap := h, toks := tk })
    (ret : ∀ D h' tk', Fr h₀ L h' m → News h₀ L h' ((D, LCg.lst []) :: news) → LCg.Off1 D news → Q (.ref D) { s with heap := h', toks := tk' })
 :
    CompAt prog w A env elt iter x px [c] scope cl pos Q E (.ref ax) s := by
  have hz : vs.length ≤ sizeLine := by rw [sizeLine_eq]; (exact Ar.go [_] [(.V 0, .N 1000, 1)] 1 (.V 0) (.N 16777216) rfl hsz)
  refine block_G (J := fun i ys => ys = []) (fun D C K s₂ => wpG (model prog w) A (isTrue c (compEnvC scope cl C env) (eval c (compEnvC scope cl C env))) (fun ok s₃ => ok = false ∧ K s₃) NoE s₂)
    (fun D C K K' s hk h => wpG_mono h (fun ok s₃ h₃ => ⟨h₃.1, hk _ h₃.2⟩) fun _ _ e => e) (fun R I D C s JJ turn n h => codeG_compLoopT JJ (fun n s hJ => turn n s hJ) n h) hh F N hl hz hcell hkind hx (fun i ys h => by rw [h]; exact Nat.zero_le _) rfl ?_
    (fun D ys h' tk' hJ F N => by subst hJ; exact ret D h' tk' F N)
  rintro i v ys I oI C oC D m₂ h tk K hv rfl hC hx2 F' N' off ne hK
  refine wpG_mono (turn i v I oI C oC D m₂ h tk hv hC hx2 F' N' off ne) (fun ok s₃ h₃ => ?_) fun _ _ e => e
  obtain ⟨e, h', tk', rfl, F2, N2⟩ := h₃
  exact ⟨e, hK [] h' tk' rfl F2 N2⟩
end
end Mine
end
section
open PySem PySem.Spec PySem.Calls PySem.W PyProof.Rows
namespace Mine
section
variable {M : Model} {A : Around} {E : Value → Shared → Prop} {h₀ h : Heap} {chg news : List (Addr × Obj)} {g : Array GenState} {d : Drawn} {t : Nat} {os : OsState} {a : Addr} {o : Obj}
theorem m_get (D : X.Mem h₀ h chg news) (hm : (a, o) ∈ news) : h.get? a = some o := (D.nw _ hm).1
theorem m_oldGet (D : X.Mem h₀ h chg news) (e : h₀.get? a = some o) (hc : X.hasCls o = true) : h.get? a = some o := D.keep a o e (by rw [hc]; rfl)
theorem m_alloc {Q : Addr → Shared → Prop} (D : X.Mem h₀ h chg news) (hf : o.isFreed = false) (q : ∀ a h', X.Mem h₀ h' chg ((a, o) :: news) → Q a ⟨h', g, d, t, os⟩) :
    wpAny M A (alloc o) Q E ⟨h, g, d, t, os⟩ := wpAny_alloc (q _ _ (D.alloc hf))
end
end Mine
namespace Mine
theorem m_collect {prog : Program} {w : World} {A : Around} {E : Value → Shared → Prop} {h₀ h : Heap} {chg news : List (Addr × Obj)} {g : Array GenState} {d : Drawn} {t : Nat} {os : OsState} {l : Addr} {vs : List Value} {Q : List Value → Shared → Prop}
    (D : X.Mem h₀ h chg news) (hl : h.get? l = some ⟨.type "list", none, .seq vs.toArray 0, #[]⟩)
    (q : ∀ c h' o, X.Mem h₀ h' chg ((c, o) :: news) → Q vs ⟨h', g, d, t, os⟩) (hsz : vs.length ≤ sizeLine := by size_fits) :
    wpAny (model prog w) A (collect (.ref l)) Q E ⟨h, g, d, t, os⟩ := by
  refine PyProof.Rows.collect_list (vs := vs) ⟨_, hl, rfl, _, rfl⟩ ?_ hsz
  have D1 := D.alloc (o := seqObj "list" #[] 0) rfl
  exact q _ _ _ (D1.update (i := 0) (a := h.objs.size) (o := seqObj "list" #[] 0) (f := Obj.mapSeq (· ++ vs.toArray)) rfl rfl)
end Mine
namespace Mine
section
variable {M : Model} {A : Around} {E : Value → Shared → Prop} {h₀ h : Heap} {chg news news' : List (Addr × Obj)} {g : Array GenState} {d : Drawn} {t : Nat} {os : OsState} {a : Addr} {o o' : Obj}
theorem m_nsGet {name : Str} {Q : Option Value → Shared → Prop} (r : Option Value) (D : X.Mem h₀ h chg news) (hm : (a, o) ∈ news) (e : nsLook name o = pure r) (q : Q r ⟨h, g, d, t, os⟩) :
    wpAny M A (nsGet a name) Q E ⟨h, g, d, t, os⟩ := by
  unfold nsGet
  refine wpAny_bind (wpAny_loadPart (m_get D hm) ?_)
  rw [e]; exact wpAny_pure q
theorem m_to (D : X.Mem h₀ h chg news) (i : Nat) (f : Obj → Obj) (hi : news[i]? = some (a, o)) (e : f o = o') (hf : o'.isFreed = false) (hn : news.set i (a, o') = news') : X.Mem h₀ (h.update a f) chg news' := by
  subst e hn
  exact D.update hi hf
theorem m_upTo {part : Option Value} {f : Obj → Obj} {Q : Unit → Shared → Prop} (o' : Obj) (D : X.Mem h₀ h chg news) (i : Nat) (hi : news[i]? = some (a, o)) (e : f o = o') (hf : o'.isFreed = false) (hn : news.set i (a, o') = news')
    (q : ∀ h', X.Mem h₀ h' chg news' → Q () ⟨h', g, d, t, os⟩) : wpAny M A (updatePart a part f) Q E ⟨h, g, d, t, os⟩ :=
  wpAny_updatePart (D.at i a o hi) (q _ (m_to D i f hi e hf hn))
theorem m_setSlot {k : Nat} {v : Option Value} {Q : Unit → Shared → Prop} (o' : Obj) (D : X.Mem h₀ h chg news) (i : Nat) (hi : news[i]? = some (a, o)) (hk : ¬ (k ≥ sizeLine))
    (e : ({ o with slots := (o.slots ++ Array.replicate (k + 1 - o.slots.size) none).setIfInBounds k v } : Obj) = o') (hf : o'.isFreed = false) (hn : news.set i (a, o') = news')
    (q : ∀ h', X.Mem h₀ h' chg news' → Q () ⟨h', g, d, t, os⟩) : wpAny M A (setSlotAt a k v) Q E ⟨h, g, d, t, os⟩ := by
  unfold setSlotAt
  rw [if_neg hk]
  exact m_upTo o' D i hi e hf hn q
theorem m_nsSet {name : Str} {v : Value} {Q : Unit → Shared → Prop} {c : Value} {od : Option Addr} {es : Array DictEntry} {n : Nat} {sl : Array (Option Value)} (o' : Int → Obj) (D : X.Mem h₀ h chg news) (i : Nat) (hi : news[i]? = some (a, ⟨c, od, .dict es n, sl⟩))
    (hr : aRefKeyMayBeTheName name es = false) (e : ∀ hsh, Obj.putName name hsh (.str name t) v ⟨c, od, .dict es n, sl⟩ = o' hsh) (hf : ∀ hsh, (o' hsh).isFreed = false)
    (q : ∀ hsh h', X.Mem h₀ h' chg (news.set i (a, o' hsh)) → Q () ⟨h', g, d, t + 1, os⟩) :
    wpAny M A (nsSet a name v) Q E ⟨h, g, d, t, os⟩ := by
  unfold nsSet strHash
  refine wpAny_bind (wpAny_bind (wpAny_askSetting (wpAny_pure ?_)))
  refine wpAny_bind (wpAny_mkText ?_)
  refine wpAny_bind (wpAny_loadPart (D.at i a _ hi) ?_)
  dsimp only
  rw [if_neg (by rw [hr]; exact Bool.false_ne_true)]
  exact wpAny_updatePart (D.at i a _ hi) (q _ _ (m_to D i _ hi (e _) (hf _) rfl))
theorem m_nsDel {name : Str} {Q : Bool → Shared → Prop} (o' : Obj) (D : X.Mem h₀ h chg news) (i : Nat) (hi : news[i]? = some (a, o)) (hh : nsHas name o = pure true) (e : Obj.dropName name o = o') (hf : o'.isFreed = false) (hn : news.set i (a, o') = news')
    (q : ∀ h', X.Mem h₀ h' chg news' → Q true ⟨h', g, d, t, os⟩) : wpAny M A (nsDel a name) Q E ⟨h, g, d, t, os⟩ := by
  unfold nsDel
  refine wpAny_bind (wpAny_loadPart (D.at i a _ hi) ?_)
  rw [hh]
  refine wpAny_bind (wpAny_pure ?_)
  rw [if_pos rfl]
  exact wpAny_bind (wpAny_updatePart (D.at i a _ hi) (wpAny_pure (q _ (m_to D i _ hi e hf hn))))
theorem m_updateCls {f : ClassData → ClassData} {Q : Unit → Shared → Prop} {oc : Value} {od : Option Addr} {cd : ClassData} {sl : Array (Option Value)} (cd' : ClassData) (D : X.Mem h₀ h chg news) (i : Nat) (hi : news[i]? = some (a, ⟨oc, od, .cls cd, sl⟩))
    (e : f cd = cd') (hp : (Data.cls cd').pastItsLine = none) (hn : news.set i (a, ⟨oc, od, .cls cd', sl⟩) = news')
    (q : ∀ h', X.Mem h₀ h' chg news' → Q () ⟨h', g, d, t, os⟩) : wpAny M A (updateCls a f) Q E ⟨h, g, d, t, os⟩ := by
  unfold updateCls
  refine wpAny_bind (wpAny_load (D.at i a _ hi) ?_)
  dsimp only
  have D' : X.Mem h₀ (h.update a (Obj.mapCls f)) chg news' := m_to D i _ hi (by show (⟨oc, od, .cls (f cd), sl⟩ : Obj) = _; rw [e]) rfl hn
  have hm : (a, (⟨oc, od, .cls cd', sl⟩ : Obj)) ∈ news' := by
    subst hn
    obtain ⟨hl, _⟩ := List.getElem?_eq_some_iff.mp hi
    exact List.mem_set hl _
  refine wpAny_bind (wpAny_update (D.at i a _ hi) ?_)
  exact wpAny_lookBehind (m_get D' hm) hp (q _ D')
end
end Mine
namespace Mine
section
variable {M : Model} {A : Around} {E : Value → Shared → Prop} {h₀ h : Heap} {chg news news' : List (Addr × Obj)} {g : Array GenState} {d : Drawn} {t : Nat} {os : OsState} {a : Addr} {o o' : Obj}
theorem m_typeLookup {K ns : Addr} {oc : Value} {od : Option Addr} {cd : ClassData} {sl : Array (Option Value)} {name : Str} {Q : Option Value → Shared → Prop} (r r' : Option Value) (D : X.Mem h₀ h chg news) (hK : (K, ⟨oc, od, .cls cd, sl⟩) ∈ news)
    (ho : (ns, o) ∈ news) (e : nsLook name o = pure r) (hm : cd.mro = [.ref K, .type "object"]) (hn : cd.ns = ns) (e' : r.or (builtinOwn "object" name) = r') (q : Q r' ⟨h, g, d, t, os⟩) : wpAny M A (typeLookup (.ref K) name) Q E ⟨h, g, d, t, os⟩ := by
  subst e'
  have hcd : ∀ {Q : ClassData → Shared → Prop}, Q cd ⟨h, g, d, t, os⟩ → wpAny M A (classData K) Q E ⟨h, g, d, t, os⟩ := fun q => wpAny_bind (wpAny_load (m_get D hK) (wpAny_pure q))
  unfold typeLookup mroOf
  refine wpAny_bind (wpAny_bind (hcd (wpAny_pure ?_)))
  rw [hm, List.forIn_cons]
  unfold classOwn
  refine wpAny_bind (wpAny_bind ?_)
  refine wpAny_bind (wpAny_bind (hcd ?_))
  rw [hn]
  refine m_nsGet r D ho e ?_
  cases r with
  | some v => exact wpAny_pure (wpAny_pure (wpAny_pure q))
  | none =>
    refine wpAny_pure ?_
    dsimp only
    rw [List.forIn_cons]
    refine wpAny_bind (wpAny_bind (wpAny_pure ?_))
    rw [Option.none_or] at q
    cases hb : builtinOwn "object" name with
    | some v => rw [hb] at q; exact wpAny_pure (wpAny_pure (wpAny_pure q))
    | none => rw [hb] at q; exact wpAny_pure (wpAny_pure (by dsimp only; exact wpAny_pure q))
end
end Mine
end
section
open PySem PySem.Spec PySem.Calls PySem.W PyProof.Rows PySem.Builtin
namespace Mine.C2
theorem sub_tuple : isSubtype (.type "tuple") (.type "tuple") = pure true := by rw [isSubtype_type]; kernel_rfl
theorem sub_dict : isSubtype (.type "dict") (.type "dict") = pure true := by rw [isSubtype_type]; kernel_rfl
theorem sub_type : isSubtype (.type "type") (.type "type") = pure true := by rw [isSubtype_type]; kernel_rfl
theorem no_turned : notOverATurnedClass [.type "object"] = pure () := by kernel_rfl
theorem ext_obj : extendedBase [.type "object"] = pure (.type "object") := by kernel_rfl
theorem best_obj : Slots.bestBase [.type "object"] = pure (.type "object") := by kernel_rfl
theorem names_obj : Slots.slotNamesOf (.type "object") = pure [] := by kernel_rfl
theorem dict_obj : Slots.givesDict (.type "object") = pure false := by kernel_rfl
theorem weak_obj : Slots.givesWeak (.type "object") = pure false := by kernel_rfl
theorem var_obj : Slots.varSize (.type "object") = pure false := by kernel_rfl
theorem mro_obj : mroOf (.type "object") = pure [.type "object"] := by kernel_rfl
theorem lin_obj : linearize [.type "object"] mroOf = pure [.type "object"] := by kernel_rfl
theorem hook_type : mroHook? (.type "type") = pure none := by kernel_rfl
theorem type_obj : typeOf (.type "object") = pure (.type "type") := by kernel_rfl
theorem made_obj : Bind.madeBy (.type "object") = pure (some "object.__new__") := by kernel_rfl
theorem id_obj : Slots.isIdentifier "obj" = some true := by kernel_rfl
theorem look_diter : typeLookup (.type "dict") "__iter__" = pure (some (.builtin "dict.__iter__")) := by rw [typeLookup_type, builtinLookup_eq_fast]; kernel_rfl
noncomputable def ent2 (hs : Nat → Int) (tk : Nat → Nat) (x9 x16 x24 x32 x40 x48 x56 x57 : Addr) : Array DictEntry := #[
 ⟨hs 0, .str "__module__" (tk 0), .str "cpy313.functools" (tk 1)⟩,
 ⟨hs 2, .str "__firstlineno__" (tk 4), .int 14 (tk 5)⟩, ⟨hs 3, .str "__slots__" (tk 6), .ref x9⟩, ⟨hs 4, .str "__init__" (tk 7), .ref x16⟩,
 ⟨hs 5, .str "__lt__" (tk 8), .ref x24⟩, ⟨hs 6, .str "__gt__" (tk 9), .ref x32⟩, ⟨hs 7, .str "__eq__" (tk 10), .ref x40⟩, ⟨hs 8, .str "__le__" (tk 11), .ref x48⟩,
 ⟨hs 9, .str "__ge__" (tk 12), .ref x56⟩, ⟨hs 10, .str "__hash__" (tk 13), .none⟩, ⟨hs 11, .str "__static_attributes__" (tk 14), .ref x57⟩]
theorem filt_self (K : Addr) : List.filter (fun x => x != Value.ref K) (.ref K :: [.type "object"]) = [.type "object"] := by simp
noncomputable def ent3 (hs : Nat → Int) (tk : Nat → Nat) (x9 x16 x24 x32 x40 x48 x56 x57 : Addr) (ho : Int) (t1 : Nat) (md : Addr) : Array DictEntry := #[
 ⟨hs 0, .str "__module__" (tk 0), .str "cpy313.functools" (tk 1)⟩,
 ⟨hs 2, .str "__firstlineno__" (tk 4), .int 14 (tk 5)⟩, ⟨hs 3, .str "__slots__" (tk 6), .ref x9⟩, ⟨hs 4, .str "__init__" (tk 7), .ref x16⟩,
 ⟨hs 5, .str "__lt__" (tk 8), .ref x24⟩, ⟨hs 6, .str "__gt__" (tk 9), .ref x32⟩, ⟨hs 7, .str "__eq__" (tk 10), .ref x40⟩, ⟨hs 8, .str "__le__" (tk 11), .ref x48⟩,
 ⟨hs 9, .str "__ge__" (tk 12), .ref x56⟩, ⟨hs 10, .str "__hash__" (tk 13), .none⟩, ⟨hs 11, .str "__static_attributes__" (tk 14), .ref x57⟩, ⟨ho, .str "obj" t1, .ref md⟩]
noncomputable def ent4 (hs : Nat → Int) (tk : Nat → Nat) (x9 x16 x24 x32 x40 x48 x56 x57 : Addr) (ho : Int) (t1 : Nat) (md : Addr) (hd : Int) (t2 : Nat) : Array DictEntry := #[
 ⟨hs 0, .str "__module__" (tk 0), .str "cpy313.functools" (tk 1)⟩,
 ⟨hs 2, .str "__firstlineno__" (tk 4), .int 14 (tk 5)⟩, ⟨hs 3, .str "__slots__" (tk 6), .ref x9⟩, ⟨hs 4, .str "__init__" (tk 7), .ref x16⟩,
 ⟨hs 5, .str "__lt__" (tk 8), .ref x24⟩, ⟨hs 6, .str "__gt__" (tk 9), .ref x32⟩, ⟨hs 7, .str "__eq__" (tk 10), .ref x40⟩, ⟨hs 8, .str "__le__" (tk 11), .ref x48⟩,
 ⟨hs 9, .str "__ge__" (tk 12), .ref x56⟩, ⟨hs 10, .str "__hash__" (tk 13), .none⟩, ⟨hs 11, .str "__static_attributes__" (tk 14), .ref x57⟩, ⟨ho, .str "obj" t1, .ref md⟩, ⟨hd, .str "__doc__" t2, .none⟩]
theorem m_forA {α β : Type} {M : Model} {A : Around} {E : Value → Shared → Prop} {s : Shared} {es : Array α} {l : List α} {b : β} {f : α → β → Sem (ForInStep β)} {Q : β → Shared → Prop} (e : es.toList = l) (h : wpAny M A (forIn l b f) Q E s) : wpAny M A (forIn es b f) Q E s := by
  rw [← Array.forIn_toList, e]; exact h
theorem sn_str : typeLookup (.type "str") "__set_name__" = pure none := by rw [typeLookup_type, builtinLookup_eq_fast]; kernel_rfl
theorem sn_int : typeLookup (.type "int") "__set_name__" = pure none := by rw [typeLookup_type, builtinLookup_eq_fast]; kernel_rfl
theorem sn_list : typeLookup (.type "list") "__set_name__" = pure none := by rw [typeLookup_type, builtinLookup_eq_fast]; kernel_rfl
theorem sn_function : typeLookup (.type "function") "__set_name__" = pure none := by rw [typeLookup_type, builtinLookup_eq_fast]; kernel_rfl
theorem sn_NoneType : typeLookup (.type "NoneType") "__set_name__" = pure none := by rw [typeLookup_type, builtinLookup_eq_fast]; kernel_rfl
theorem sn_tuple : typeLookup (.type "tuple") "__set_name__" = pure none := by rw [typeLookup_type, builtinLookup_eq_fast]; kernel_rfl
theorem sn_member_descriptor : typeLookup (.type "member_descriptor") "__set_name__" = pure none := by rw [typeLookup_type, builtinLookup_eq_fast]; kernel_rfl
theorem m_try {α : Type} {M : Model} {A : Around} {E : Value → Shared → Prop} {s : Shared} {m : Sem α} {k : Value → Sem α} {Q : α → Shared → Prop} (h : wpAny M A m Q (fun e s' => wpAny M A (k e) Q E s') s) : wpAny M A (Sem.tryCatch m k) Q E s := wpAny_tryCatch h
theorem m_forKeep {α β : Type} {M : Model} {A : Around} {E : Value → Shared → Prop} {s : Shared} {b : β} {f : α → β → Sem (ForInStep β)} {Q : β → Shared → Prop} : ∀ {l : List α}, (∀ x ∈ l, ∀ Q' : ForInStep β → Shared → Prop, Q' (.yield b) s → wpAny M A (f x b) Q' E s) → Q b s → wpAny M A (forIn l b f) Q E s
  | [], _, q => by rw [List.forIn_nil]; exact wpAny_pure q
  | x :: l, h, q => by
    rw [List.forIn_cons]
    exact wpAny_bind (h x List.mem_cons_self _ (m_forKeep (fun y hy => h y (List.mem_cons_of_mem _ hy)) q))
end Mine.C2
end
local macro_rules | `(tactic| walk_at "mine u") => `(tactic| first
  | exists "Mine.C2.sub_tuple Mine.C2.sub_dict Mine.C2.sub_type Mine.C2.type_obj", by with_reducible refine PySem.wpAny_of_eq (x ..) ?_
  | exists "PySem.Builtin.notOverATurnedClass:Mine.C2.no_turned PySem.Builtin.extendedBase:Mine.C2.ext_obj PySem.Builtin.Slots.bestBase:Mine.C2.best_obj PySem.Builtin.Slots.slotNamesOf:Mine.C2.names_obj PySem.Builtin.Slots.givesDict:Mine.C2.dict_obj PySem.Builtin.Slots.givesWeak:Mine.C2.weak_obj PySem.Builtin.Slots.varSize:Mine.C2.var_obj PySem.Builtin.linearize:Mine.C2.lin_obj PySem.Builtin.mroHook?:Mine.C2.hook_type PySem.Bind.madeBy:Mine.C2.made_obj", by ((with_reducible show PySem.wpAny _ _ (@x ..) _ _ _); refine PySem.wpAny_of_eq (y ..) ?_)
  | exists "PySem.wpAny_loadPart PySem.wpAny_load", by with_reducible refine x (Mine.m_oldGet (by assumption) (by assumption) rfl) ?_
  | exists "PySem.wpAny_loadPart PySem.wpAny_load", by with_reducible refine x (Mine.m_get (by assumption) (by (repeat (first | exact List.mem_cons_self | apply List.mem_cons_of_mem)))) ?_
  | wp_step)
section
open PySem PySem.Spec PySem.Calls PySem.W PyProof.Rows PySem.Builtin
set_option maxHeartbeats 0
namespace Mine.C2
noncomputable abbrev clsName : Str := "K"
noncomputable def ent (hs : Nat → Int) (tk : Nat → Nat) (x9 x16 x24 x32 x40 x48 x56 x57 : Addr) : Array DictEntry := #[
 ⟨hs 0, .str "__module__" (tk 0), .str "cpy313.functools" (tk 1)⟩, ⟨hs 1, .str "__qualname__" (tk 2), .str "cmp_to_key.<locals>.K" (tk 3)⟩,
 ⟨hs 2, .str "__firstlineno__" (tk 4), .int 14 (tk 5)⟩, ⟨hs 3, .str "__slots__" (tk 6), .ref x9⟩, ⟨hs 4, .str "__init__" (tk 7), .ref x16⟩,
 ⟨hs 5, .str "__lt__" (tk 8), .ref x24⟩, ⟨hs 6, .str "__gt__" (tk 9), .ref x32⟩, ⟨hs 7, .str "__eq__" (tk 10), .ref x40⟩, ⟨hs 8, .str "__le__" (tk 11), .ref x48⟩,
 ⟨hs 9, .str "__ge__" (tk 12), .ref x56⟩, ⟨hs 10, .str "__hash__" (tk 13), .none⟩, ⟨hs 11, .str "__static_attributes__" (tk 14), .ref x57⟩]
theorem slots_read {prog : Program} {w : World} {A : Around} {E : Value → Shared → Prop} {h₀ h : Heap} {chg news : List (Addr × Obj)} {g : Array GenState} {d : Drawn} {t : Nat} {os : OsState} (t9 : Nat) (hs : Nat → Int) (tk : Nat → Nat) (x9 x16 x24 x32 x40 x48 x56 x57 : Addr)
   {Q : Slots.Plan → Shared → Prop} (D : X.Mem h₀ h chg news)
   (h9 : h.get? x9 = some ⟨.type "list", none, .seq #[.str "obj" t9] 0, #[]⟩)
   (q : ∀ c h' o, X.Mem h₀ h' chg ((c, o) :: news) → Q { names := ["obj"], dict := false, weak := false, inherited := [] } ⟨h', g, d, t, os⟩) :
   wpAny (model prog w) A (Slots.read "K" [.type "object"] (ent hs tk x9 x16 x24 x32 x40 x48 x56 x57)) Q E ⟨h, g, d, t, os⟩ := by
  (repeat (first | ((with_reducible show wpAny _ _ (collect _) _ _ _); refine m_collect (vs := [.str "obj" _]) (by assumption) (by assumption) ?_; intro _ _ _ _) | (with_reducible refine m_alloc (by assumption) rfl ?_; intro _ _ _) | walk_at "mine u" | rw [id_obj]))
  refine wpAny_ite_false (by kernel_rfl) ?_
  (repeat (first | ((with_reducible show wpAny _ _ (collect _) _ _ _); refine m_collect (vs := [.str "obj" _]) (by assumption) (by assumption) ?_; intro _ _ _ _) | (with_reducible refine m_alloc (by assumption) rfl ?_; intro _ _ _) | walk_at "mine u" | rw [id_obj]))
  rename_i c1 h1 o1 D1
  exact cast (by kernel_rfl) (q c1 h1 o1 D1)
end Mine.C2
end
section
open PySem PySem.Spec PySem.Calls PySem.W PyProof.Rows PySem.Builtin
set_option maxHeartbeats 0
namespace Mine.C2
noncomputable abbrev newsK (B ns K md c1 : Addr) (tK t : Nat) (hs : Nat → Int) (tk : Nat → Nat) (x9 x16 x24 x32 x40 x48 x56 x57 : Addr) (ho hd : Int) (o1 : Obj) : List (Addr × Obj) := [
  (md, ⟨.type "member_descriptor", none, .fields #[.str "obj" t, .ref K, .builtin "proto.slot", .builtin "proto.slot#set", .int 0 0], #[]⟩),
  (K, ⟨.type "type", none, .cls { name := "K", bases := [.type "object"], mro := [.ref K, .type "object"], ns := ns, qualname := "cmp_to_key.<locals>.K", hasDict := false, slotNames := ["obj"] }, #[some (.ref B), none, some (.str "K" tK), some (.str "cmp_to_key.<locals>.K" (tk 3)), some (.builtin "object.__new__"), some (.bool false)]⟩), (ns, ⟨.type "dict", none, .dict (ent4 hs tk x9 x16 x24 x32 x40 x48 x56 x57 ho (t + 1) md hd (t + 1 + 1)) 3, #[]⟩), (c1, o1)]
set_option maxHeartbeats 0 in
noncomputable def stA {prog : Program} {w : World} {A : Around} {E : Value → Shared → Prop} {h₀ : Heap} {g : Array GenState} {d : Drawn} {t : Nat} {os : OsState} (B N : Addr) (tK t9 : Nat) (hs : Nat → Int) (tk : Nat → Nat) (x9 x16 x24 x32 x40 x48 x56 x57 : Addr)
   {Q : PySem.Fin → Shared → Prop}
   (hB : h₀.get? B = some ⟨.type "tuple", none, .seq #[.type "object"] 0, #[]⟩)
   (hN : h₀.get? N = some ⟨.type "dict", none, .dict (ent hs tk x9 x16 x24 x32 x40 x48 x56 x57) 12, #[]⟩) (hNs : (N == sysModules) = false)
   (h9 : h₀.get? x9 = some ⟨.type "list", none, .seq #[.str "obj" t9] 0, #[]⟩) :
   { P : Addr → Addr → Addr → Addr → Int → Int → Obj → Heap → Prop // (∀ ns K md c1 ho hd o1 h14, X.Mem h₀ h14 [] (newsK B ns K md c1 tK t hs tk x9 x16 x24 x32 x40 x48 x56 x57 ho hd o1) → P ns K md c1 ho hd o1 h14) →
   wpAny (model prog w) A (Builtin.«type.__new__» ⟨[.type "type", .str "K" tK, .ref B, .ref N], []⟩) Q E ⟨h₀, g, d, t, os⟩ } := ⟨_, fun kk => by
  have D := X.Mem.start h₀
  (repeat (first | exists "sn_str sn_int sn_list sn_function sn_NoneType sn_tuple sn_member_descriptor look_diter", by with_reducible refine wpAny_of_eq (x ..) ?_ | exists "Slots.read nsGet nsSet nsDel setSlotAt updateCls PySem.alloc Slots.install Bind.refreshMaker List.anyM typeLookup", by (with_reducible show wpAny _ _ (@x ..) _ _ _); refine Halt.out ?_ | ((with_reducible show wpAny _ _ (forIn (ent4 ..) _ _) _ _ _); refine Halt.out ?_) | with_reducible refine m_try ?_ | walk_at "mine u"))
  refine Halt.go ?_
  refine slots_read t9 hs tk x9 x16 x24 x32 x40 x48 x56 x57 D h9 ?_
  intro c1 h1 o1 D1
  clear D
  (repeat (first | exists "sn_str sn_int sn_list sn_function sn_NoneType sn_tuple sn_member_descriptor look_diter", by with_reducible refine wpAny_of_eq (x ..) ?_ | exists "Slots.read nsGet nsSet nsDel setSlotAt updateCls PySem.alloc Slots.install Bind.refreshMaker List.anyM typeLookup", by (with_reducible show wpAny _ _ (@x ..) _ _ _); refine Halt.out ?_ | ((with_reducible show wpAny _ _ (forIn (ent4 ..) _ _) _ _ _); refine Halt.out ?_) | with_reducible refine m_try ?_ | walk_at "mine u"))
  refine Halt.go ?_
  refine m_alloc D1 rfl ?_
  intro ns h2 D2
  clear D1
  (repeat (first | exists "sn_str sn_int sn_list sn_function sn_NoneType sn_tuple sn_member_descriptor look_diter", by with_reducible refine wpAny_of_eq (x ..) ?_ | exists "Slots.read nsGet nsSet nsDel setSlotAt updateCls PySem.alloc Slots.install Bind.refreshMaker List.anyM typeLookup", by (with_reducible show wpAny _ _ (@x ..) _ _ _); refine Halt.out ?_ | ((with_reducible show wpAny _ _ (forIn (ent4 ..) _ _) _ _ _); refine Halt.out ?_) | with_reducible refine m_try ?_ | walk_at "mine u"))
  refine wpAny_ite_false (by kernel_rfl) ?_
  (repeat (first | exists "sn_str sn_int sn_list sn_function sn_NoneType sn_tuple sn_member_descriptor look_diter", by with_reducible refine wpAny_of_eq (x ..) ?_ | exists "Slots.read nsGet nsSet nsDel setSlotAt updateCls PySem.alloc Slots.install Bind.refreshMaker List.anyM typeLookup", by (with_reducible show wpAny _ _ (@x ..) _ _ _); refine Halt.out ?_ | ((with_reducible show wpAny _ _ (forIn (ent4 ..) _ _) _ _ _); refine Halt.out ?_) | with_reducible refine m_try ?_ | walk_at "mine u"))
  refine wpAny_ite_false (by kernel_rfl) ?_
  (repeat (first | exists "sn_str sn_int sn_list sn_function sn_NoneType sn_tuple sn_member_descriptor look_diter", by with_reducible refine wpAny_of_eq (x ..) ?_ | exists "Slots.read nsGet nsSet nsDel setSlotAt updateCls PySem.alloc Slots.install Bind.refreshMaker List.anyM typeLookup", by (with_reducible show wpAny _ _ (@x ..) _ _ _); refine Halt.out ?_ | ((with_reducible show wpAny _ _ (forIn (ent4 ..) _ _) _ _ _); refine Halt.out ?_) | with_reducible refine m_try ?_ | walk_at "mine u"))
  refine wpAny_ite_false (by kernel_rfl) ?_
  (repeat (first | exists "sn_str sn_int sn_list sn_function sn_NoneType sn_tuple sn_member_descriptor look_diter", by with_reducible refine wpAny_of_eq (x ..) ?_ | exists "Slots.read nsGet nsSet nsDel setSlotAt updateCls PySem.alloc Slots.install Bind.refreshMaker List.anyM typeLookup", by (with_reducible show wpAny _ _ (@x ..) _ _ _); refine Halt.out ?_ | ((with_reducible show wpAny _ _ (forIn (ent4 ..) _ _) _ _ _); refine Halt.out ?_) | with_reducible refine m_try ?_ | walk_at "mine u"))
  refine Halt.go ?_
  refine m_nsGet (some (.str "cmp_to_key.<locals>.K" (tk 3))) D2 (by (repeat (first | exact List.mem_cons_self | apply List.mem_cons_of_mem))) (by kernel_rfl) ?_
  (repeat (first | exists "sn_str sn_int sn_list sn_function sn_NoneType sn_tuple sn_member_descriptor look_diter", by with_reducible refine wpAny_of_eq (x ..) ?_ | exists "Slots.read nsGet nsSet nsDel setSlotAt updateCls PySem.alloc Slots.install Bind.refreshMaker List.anyM typeLookup", by (with_reducible show wpAny _ _ (@x ..) _ _ _); refine Halt.out ?_ | ((with_reducible show wpAny _ _ (forIn (ent4 ..) _ _) _ _ _); refine Halt.out ?_) | with_reducible refine m_try ?_ | walk_at "mine u"))
  refine Halt.go ?_
  refine m_nsGet (some (.str "cmp_to_key.<locals>.K" (tk 3))) D2 (by (repeat (first | exact List.mem_cons_self | apply List.mem_cons_of_mem))) (by kernel_rfl) ?_
  (repeat (first | exists "sn_str sn_int sn_list sn_function sn_NoneType sn_tuple sn_member_descriptor look_diter", by with_reducible refine wpAny_of_eq (x ..) ?_ | exists "Slots.read nsGet nsSet nsDel setSlotAt updateCls PySem.alloc Slots.install Bind.refreshMaker List.anyM typeLookup", by (with_reducible show wpAny _ _ (@x ..) _ _ _); refine Halt.out ?_ | ((with_reducible show wpAny _ _ (forIn (ent4 ..) _ _) _ _ _); refine Halt.out ?_) | with_reducible refine m_try ?_ | walk_at "mine u"))
  refine Halt.go ?_
  refine m_nsGet none D2 (by (repeat (first | exact List.mem_cons_self | apply List.mem_cons_of_mem))) (by kernel_rfl) ?_
  (repeat (first | exists "sn_str sn_int sn_list sn_function sn_NoneType sn_tuple sn_member_descriptor look_diter", by with_reducible refine wpAny_of_eq (x ..) ?_ | exists "Slots.read nsGet nsSet nsDel setSlotAt updateCls PySem.alloc Slots.install Bind.refreshMaker List.anyM typeLookup", by (with_reducible show wpAny _ _ (@x ..) _ _ _); refine Halt.out ?_ | ((with_reducible show wpAny _ _ (forIn (ent4 ..) _ _) _ _ _); refine Halt.out ?_) | with_reducible refine m_try ?_ | walk_at "mine u"))
  refine Halt.go ?_
  refine m_alloc (o := ⟨.type "type", none, .cls { name := "K", bases := [.type "object"], mro := [], ns := ns, qualname := "cmp_to_key.<locals>.K" }, #[]⟩) D2 rfl ?_
  intro K h3 D3
  clear D2
  (repeat (first | exists "sn_str sn_int sn_list sn_function sn_NoneType sn_tuple sn_member_descriptor look_diter", by with_reducible refine wpAny_of_eq (x ..) ?_ | exists "Slots.read nsGet nsSet nsDel setSlotAt updateCls PySem.alloc Slots.install Bind.refreshMaker List.anyM typeLookup", by (with_reducible show wpAny _ _ (@x ..) _ _ _); refine Halt.out ?_ | ((with_reducible show wpAny _ _ (forIn (ent4 ..) _ _) _ _ _); refine Halt.out ?_) | with_reducible refine m_try ?_ | walk_at "mine u"))
  refine Halt.go ?_
  refine m_setSlot (⟨.type "type", none, .cls { name := "K", bases := [.type "object"], mro := [], ns := ns, qualname := "cmp_to_key.<locals>.K" }, #[some (.ref B)]⟩) D3 0 rfl (by decide) (by kernel_rfl) rfl rfl ?_
  intro h4 D4
  clear D3
  simp only [List.set_cons_zero, List.set_cons_succ] at D4
  (repeat (first | exists "sn_str sn_int sn_list sn_function sn_NoneType sn_tuple sn_member_descriptor look_diter", by with_reducible refine wpAny_of_eq (x ..) ?_ | exists "Slots.read nsGet nsSet nsDel setSlotAt updateCls PySem.alloc Slots.install Bind.refreshMaker List.anyM typeLookup", by (with_reducible show wpAny _ _ (@x ..) _ _ _); refine Halt.out ?_ | ((with_reducible show wpAny _ _ (forIn (ent4 ..) _ _) _ _ _); refine Halt.out ?_) | with_reducible refine m_try ?_ | walk_at "mine u"))
  refine Halt.go ?_
  refine m_setSlot (⟨.type "type", none, .cls { name := "K", bases := [.type "object"], mro := [], ns := ns, qualname := "cmp_to_key.<locals>.K" }, #[some (.ref B), none, some (.str "K" tK)]⟩) D4 0 rfl (by decide) (by kernel_rfl) rfl rfl ?_
  intro h5 D5
  clear D4
  simp only [List.set_cons_zero, List.set_cons_succ] at D5
  (repeat (first | exists "sn_str sn_int sn_list sn_function sn_NoneType sn_tuple sn_member_descriptor look_diter", by with_reducible refine wpAny_of_eq (x ..) ?_ | exists "Slots.read nsGet nsSet nsDel setSlotAt updateCls PySem.alloc Slots.install Bind.refreshMaker List.anyM typeLookup", by (with_reducible show wpAny _ _ (@x ..) _ _ _); refine Halt.out ?_ | ((with_reducible show wpAny _ _ (forIn (ent4 ..) _ _) _ _ _); refine Halt.out ?_) | with_reducible refine m_try ?_ | walk_at "mine u"))
  refine Halt.go ?_
  refine m_setSlot (⟨.type "type", none, .cls { name := "K", bases := [.type "object"], mro := [], ns := ns, qualname := "cmp_to_key.<locals>.K" }, #[some (.ref B), none, some (.str "K" tK), some (.str "cmp_to_key.<locals>.K" (tk 3))]⟩) D5 0 rfl (by decide) (by kernel_rfl) rfl rfl ?_
  intro h6 D6
  clear D5
  simp only [List.set_cons_zero, List.set_cons_succ] at D6
  (repeat (first | exists "sn_str sn_int sn_list sn_function sn_NoneType sn_tuple sn_member_descriptor look_diter", by with_reducible refine wpAny_of_eq (x ..) ?_ | exists "Slots.read nsGet nsSet nsDel setSlotAt updateCls PySem.alloc Slots.install Bind.refreshMaker List.anyM typeLookup", by (with_reducible show wpAny _ _ (@x ..) _ _ _); refine Halt.out ?_ | ((with_reducible show wpAny _ _ (forIn (ent4 ..) _ _) _ _ _); refine Halt.out ?_) | with_reducible refine m_try ?_ | walk_at "mine u"))
  refine Halt.go ?_
  refine m_nsDel (⟨.type "dict", none, .dict (ent2 hs tk x9 x16 x24 x32 x40 x48 x56 x57) 1, #[]⟩) D6 1 rfl (by kernel_rfl) (by kernel_rfl) rfl rfl ?_
  intro h7 D7
  clear D6
  simp only [List.set_cons_zero, List.set_cons_succ] at D7
  (repeat (first | exists "sn_str sn_int sn_list sn_function sn_NoneType sn_tuple sn_member_descriptor look_diter", by with_reducible refine wpAny_of_eq (x ..) ?_ | exists "Slots.read nsGet nsSet nsDel setSlotAt updateCls PySem.alloc Slots.install Bind.refreshMaker List.anyM typeLookup", by (with_reducible show wpAny _ _ (@x ..) _ _ _); refine Halt.out ?_ | ((with_reducible show wpAny _ _ (forIn (ent4 ..) _ _) _ _ _); refine Halt.out ?_) | with_reducible refine m_try ?_ | walk_at "mine u"))
  refine Halt.go ?_
  refine m_nsGet none D7 (by (repeat (first | exact List.mem_cons_self | apply List.mem_cons_of_mem))) (by kernel_rfl) ?_
  (repeat (first | exists "sn_str sn_int sn_list sn_function sn_NoneType sn_tuple sn_member_descriptor look_diter", by with_reducible refine wpAny_of_eq (x ..) ?_ | exists "Slots.read nsGet nsSet nsDel setSlotAt updateCls PySem.alloc Slots.install Bind.refreshMaker List.anyM typeLookup", by (with_reducible show wpAny _ _ (@x ..) _ _ _); refine Halt.out ?_ | ((with_reducible show wpAny _ _ (forIn (ent4 ..) _ _) _ _ _); refine Halt.out ?_) | with_reducible refine m_try ?_ | walk_at "mine u"))
  refine Halt.go ?_
  refine m_nsGet none D7 (by (repeat (first | exact List.mem_cons_self | apply List.mem_cons_of_mem))) (by kernel_rfl) ?_
  (repeat (first | exists "sn_str sn_int sn_list sn_function sn_NoneType sn_tuple sn_member_descriptor look_diter", by with_reducible refine wpAny_of_eq (x ..) ?_ | exists "Slots.read nsGet nsSet nsDel setSlotAt updateCls PySem.alloc Slots.install Bind.refreshMaker List.anyM typeLookup", by (with_reducible show wpAny _ _ (@x ..) _ _ _); refine Halt.out ?_ | ((with_reducible show wpAny _ _ (forIn (ent4 ..) _ _) _ _ _); refine Halt.out ?_) | with_reducible refine m_try ?_ | walk_at "mine u"))
  refine Halt.go ?_
  refine m_nsGet none D7 (by (repeat (first | exact List.mem_cons_self | apply List.mem_cons_of_mem))) (by kernel_rfl) ?_
  (repeat (first | exists "sn_str sn_int sn_list sn_function sn_NoneType sn_tuple sn_member_descriptor look_diter", by with_reducible refine wpAny_of_eq (x ..) ?_ | exists "Slots.read nsGet nsSet nsDel setSlotAt updateCls PySem.alloc Slots.install Bind.refreshMaker List.anyM typeLookup", by (with_reducible show wpAny _ _ (@x ..) _ _ _); refine Halt.out ?_ | ((with_reducible show wpAny _ _ (forIn (ent4 ..) _ _) _ _ _); refine Halt.out ?_) | with_reducible refine m_try ?_ | walk_at "mine u"))
  refine Halt.go ?_
  refine m_nsGet none D7 (by (repeat (first | exact List.mem_cons_self | apply List.mem_cons_of_mem))) (by kernel_rfl) ?_
  (repeat (first | exists "sn_str sn_int sn_list sn_function sn_NoneType sn_tuple sn_member_descriptor look_diter", by with_reducible refine wpAny_of_eq (x ..) ?_ | exists "Slots.read nsGet nsSet nsDel setSlotAt updateCls PySem.alloc Slots.install Bind.refreshMaker List.anyM typeLookup", by (with_reducible show wpAny _ _ (@x ..) _ _ _); refine Halt.out ?_ | ((with_reducible show wpAny _ _ (forIn (ent4 ..) _ _) _ _ _); refine Halt.out ?_) | with_reducible refine m_try ?_ | walk_at "mine u"))
  refine Halt.go ?_
  refine m_nsGet none D7 (by (repeat (first | exact List.mem_cons_self | apply List.mem_cons_of_mem))) (by kernel_rfl) ?_
  (repeat (first | exists "sn_str sn_int sn_list sn_function sn_NoneType sn_tuple sn_member_descriptor look_diter", by with_reducible refine wpAny_of_eq (x ..) ?_ | exists "Slots.read nsGet nsSet nsDel setSlotAt updateCls PySem.alloc Slots.install Bind.refreshMaker List.anyM typeLookup", by (with_reducible show wpAny _ _ (@x ..) _ _ _); refine Halt.out ?_ | ((with_reducible show wpAny _ _ (forIn (ent4 ..) _ _) _ _ _); refine Halt.out ?_) | with_reducible refine m_try ?_ | walk_at "mine u"))
  refine Halt.go ?_
  rw [filt_self]
  refine wpAny_of_eq (a := false) (by kernel_rfl) ?_
  (repeat (first | exists "sn_str sn_int sn_list sn_function sn_NoneType sn_tuple sn_member_descriptor look_diter", by with_reducible refine wpAny_of_eq (x ..) ?_ | exists "Slots.read nsGet nsSet nsDel setSlotAt updateCls PySem.alloc Slots.install Bind.refreshMaker List.anyM typeLookup", by (with_reducible show wpAny _ _ (@x ..) _ _ _); refine Halt.out ?_ | ((with_reducible show wpAny _ _ (forIn (ent4 ..) _ _) _ _ _); refine Halt.out ?_) | with_reducible refine m_try ?_ | walk_at "mine u"))
  refine Halt.go ?_
  refine m_updateCls ({ name := "K", bases := [.type "object"], mro := [.ref K, .type "object"], ns := ns, qualname := "cmp_to_key.<locals>.K" }) D7 0 rfl (by kernel_rfl) rfl rfl ?_
  intro h8 D8
  clear D7
  simp only [List.set_cons_zero, List.set_cons_succ] at D8
  (repeat (first | exists "sn_str sn_int sn_list sn_function sn_NoneType sn_tuple sn_member_descriptor look_diter", by with_reducible refine wpAny_of_eq (x ..) ?_ | exists "Slots.read nsGet nsSet nsDel setSlotAt updateCls PySem.alloc Slots.install Bind.refreshMaker List.anyM typeLookup", by (with_reducible show wpAny _ _ (@x ..) _ _ _); refine Halt.out ?_ | ((with_reducible show wpAny _ _ (forIn (ent4 ..) _ _) _ _ _); refine Halt.out ?_) | with_reducible refine m_try ?_ | walk_at "mine u"))
  refine Halt.go ?_
  refine m_setSlot (⟨.type "type", none, .cls { name := "K", bases := [.type "object"], mro := [.ref K, .type "object"], ns := ns, qualname := "cmp_to_key.<locals>.K" }, #[some (.ref B), none, some (.str "K" tK), some (.str "cmp_to_key.<locals>.K" (tk 3)), some (.builtin "object.__new__")]⟩) D8 0 rfl (by decide) (by kernel_rfl) rfl rfl ?_
  intro h9 D9
  clear D8
  simp only [List.set_cons_zero, List.set_cons_succ] at D9
  (repeat (first | exists "sn_str sn_int sn_list sn_function sn_NoneType sn_tuple sn_member_descriptor look_diter", by with_reducible refine wpAny_of_eq (x ..) ?_ | exists "Slots.read nsGet nsSet nsDel setSlotAt updateCls PySem.alloc Slots.install Bind.refreshMaker List.anyM typeLookup", by (with_reducible show wpAny _ _ (@x ..) _ _ _); refine Halt.out ?_ | ((with_reducible show wpAny _ _ (forIn (ent4 ..) _ _) _ _ _); refine Halt.out ?_) | with_reducible refine m_try ?_ | walk_at "mine u"))
  refine Halt.go ?_
  unfold Bind.refreshMaker
  (repeat (first | exists "sn_str sn_int sn_list sn_function sn_NoneType sn_tuple sn_member_descriptor look_diter", by with_reducible refine wpAny_of_eq (x ..) ?_ | exists "Slots.read nsGet nsSet nsDel setSlotAt updateCls PySem.alloc Slots.install Bind.refreshMaker List.anyM typeLookup", by (with_reducible show wpAny _ _ (@x ..) _ _ _); refine Halt.out ?_ | ((with_reducible show wpAny _ _ (forIn (ent4 ..) _ _) _ _ _); refine Halt.out ?_) | with_reducible refine m_try ?_ | walk_at "mine u"))
  refine Halt.go ?_
  refine m_typeLookup none (some (.builtin "object.__new__")) D9 (by (repeat (first | exact List.mem_cons_self | apply List.mem_cons_of_mem))) (by (repeat (first | exact List.mem_cons_self | apply List.mem_cons_of_mem))) (by kernel_rfl) rfl rfl (by kernel_rfl) ?_
  (repeat (first | exists "sn_str sn_int sn_list sn_function sn_NoneType sn_tuple sn_member_descriptor look_diter", by with_reducible refine wpAny_of_eq (x ..) ?_ | exists "Slots.read nsGet nsSet nsDel setSlotAt updateCls PySem.alloc Slots.install Bind.refreshMaker List.anyM typeLookup", by (with_reducible show wpAny _ _ (@x ..) _ _ _); refine Halt.out ?_ | ((with_reducible show wpAny _ _ (forIn (ent4 ..) _ _) _ _ _); refine Halt.out ?_) | with_reducible refine m_try ?_ | walk_at "mine u"))
  refine wpAny_ite_false (by kernel_rfl) ?_
  (repeat (first | exists "sn_str sn_int sn_list sn_function sn_NoneType sn_tuple sn_member_descriptor look_diter", by with_reducible refine wpAny_of_eq (x ..) ?_ | exists "Slots.read nsGet nsSet nsDel setSlotAt updateCls PySem.alloc Slots.install Bind.refreshMaker List.anyM typeLookup", by (with_reducible show wpAny _ _ (@x ..) _ _ _); refine Halt.out ?_ | ((with_reducible show wpAny _ _ (forIn (ent4 ..) _ _) _ _ _); refine Halt.out ?_) | with_reducible refine m_try ?_ | walk_at "mine u"))
  refine Halt.go ?_
  unfold Slots.install
  (repeat (first | exists "sn_str sn_int sn_list sn_function sn_NoneType sn_tuple sn_member_descriptor look_diter", by with_reducible refine wpAny_of_eq (x ..) ?_ | exists "Slots.read nsGet nsSet nsDel setSlotAt updateCls PySem.alloc Slots.install Bind.refreshMaker List.anyM typeLookup", by (with_reducible show wpAny _ _ (@x ..) _ _ _); refine Halt.out ?_ | ((with_reducible show wpAny _ _ (forIn (ent4 ..) _ _) _ _ _); refine Halt.out ?_) | with_reducible refine m_try ?_ | walk_at "mine u"))
  refine Halt.go ?_
  refine m_nsGet none D9 (by (repeat (first | exact List.mem_cons_self | apply List.mem_cons_of_mem))) (by kernel_rfl) ?_
  (repeat (first | exists "sn_str sn_int sn_list sn_function sn_NoneType sn_tuple sn_member_descriptor look_diter", by with_reducible refine wpAny_of_eq (x ..) ?_ | exists "Slots.read nsGet nsSet nsDel setSlotAt updateCls PySem.alloc Slots.install Bind.refreshMaker List.anyM typeLookup", by (with_reducible show wpAny _ _ (@x ..) _ _ _); refine Halt.out ?_ | ((with_reducible show wpAny _ _ (forIn (ent4 ..) _ _) _ _ _); refine Halt.out ?_) | with_reducible refine m_try ?_ | walk_at "mine u"))
  refine Halt.go ?_
  refine m_alloc (o := ⟨.type "member_descriptor", none, .fields #[.str "obj" t, .ref K, .builtin "proto.slot", .builtin "proto.slot#set", .int 0 0], #[]⟩) D9 rfl ?_
  intro md h10 D10
  clear D9
  (repeat (first | exists "sn_str sn_int sn_list sn_function sn_NoneType sn_tuple sn_member_descriptor look_diter", by with_reducible refine wpAny_of_eq (x ..) ?_ | exists "Slots.read nsGet nsSet nsDel setSlotAt updateCls PySem.alloc Slots.install Bind.refreshMaker List.anyM typeLookup", by (with_reducible show wpAny _ _ (@x ..) _ _ _); refine Halt.out ?_ | ((with_reducible show wpAny _ _ (forIn (ent4 ..) _ _) _ _ _); refine Halt.out ?_) | with_reducible refine m_try ?_ | walk_at "mine u"))
  refine Halt.go ?_
  refine m_nsSet (fun ho => ⟨.type "dict", none, .dict (ent3 hs tk x9 x16 x24 x32 x40 x48 x56 x57 ho (t + 1) md) 2, #[]⟩) D10 2 rfl (by kernel_rfl) (fun ho => by kernel_rfl) (fun _ => rfl) ?_
  intro ho h11 D11
  clear D10
  simp only [List.set_cons_zero, List.set_cons_succ] at  D11
  (repeat (first | exists "sn_str sn_int sn_list sn_function sn_NoneType sn_tuple sn_member_descriptor look_diter", by with_reducible refine wpAny_of_eq (x ..) ?_ | exists "Slots.read nsGet nsSet nsDel setSlotAt updateCls PySem.alloc Slots.install Bind.refreshMaker List.anyM typeLookup", by (with_reducible show wpAny _ _ (@x ..) _ _ _); refine Halt.out ?_ | ((with_reducible show wpAny _ _ (forIn (ent4 ..) _ _) _ _ _); refine Halt.out ?_) | with_reducible refine m_try ?_ | walk_at "mine u"))
  refine Halt.go ?_
  refine m_updateCls ({ name := "K", bases := [.type "object"], mro := [.ref K, .type "object"], ns := ns, qualname := "cmp_to_key.<locals>.K", hasDict := false, slotNames := ["obj"] }) D11 1 rfl (by kernel_rfl) rfl rfl ?_
  intro h12 D12
  clear D11
  simp only [List.set_cons_zero, List.set_cons_succ] at  D12
  (repeat (first | exists "sn_str sn_int sn_list sn_function sn_NoneType sn_tuple sn_member_descriptor look_diter", by with_reducible refine wpAny_of_eq (x ..) ?_ | exists "Slots.read nsGet nsSet nsDel setSlotAt updateCls PySem.alloc Slots.install Bind.refreshMaker List.anyM typeLookup", by (with_reducible show wpAny _ _ (@x ..) _ _ _); refine Halt.out ?_ | ((with_reducible show wpAny _ _ (forIn (ent4 ..) _ _) _ _ _); refine Halt.out ?_) | with_reducible refine m_try ?_ | walk_at "mine u"))
  refine Halt.go ?_
  refine m_setSlot (⟨.type "type", none, .cls { name := "K", bases := [.type "object"], mro := [.ref K, .type "object"], ns := ns, qualname := "cmp_to_key.<locals>.K", hasDict := false, slotNames := ["obj"] }, #[some (.ref B), none, some (.str "K" tK), some (.str "cmp_to_key.<locals>.K" (tk 3)), some (.builtin "object.__new__"), some (.bool false)]⟩) D12 1 rfl (by decide) (by kernel_rfl) rfl rfl ?_
  intro h13 D13
  clear D12
  simp only [List.set_cons_zero, List.set_cons_succ] at  D13
  (repeat (first | exists "sn_str sn_int sn_list sn_function sn_NoneType sn_tuple sn_member_descriptor look_diter", by with_reducible refine wpAny_of_eq (x ..) ?_ | exists "Slots.read nsGet nsSet nsDel setSlotAt updateCls PySem.alloc Slots.install Bind.refreshMaker List.anyM typeLookup", by (with_reducible show wpAny _ _ (@x ..) _ _ _); refine Halt.out ?_ | ((with_reducible show wpAny _ _ (forIn (ent4 ..) _ _) _ _ _); refine Halt.out ?_) | with_reducible refine m_try ?_ | walk_at "mine u"))
  refine Halt.go ?_
  refine m_nsGet none D13 (by (repeat (first | exact List.mem_cons_self | apply List.mem_cons_of_mem))) (by kernel_rfl) ?_
  (repeat (first | exists "sn_str sn_int sn_list sn_function sn_NoneType sn_tuple sn_member_descriptor look_diter", by with_reducible refine wpAny_of_eq (x ..) ?_ | exists "Slots.read nsGet nsSet nsDel setSlotAt updateCls PySem.alloc Slots.install Bind.refreshMaker List.anyM typeLookup", by (with_reducible show wpAny _ _ (@x ..) _ _ _); refine Halt.out ?_ | ((with_reducible show wpAny _ _ (forIn (ent4 ..) _ _) _ _ _); refine Halt.out ?_) | with_reducible refine m_try ?_ | walk_at "mine u"))
  refine Halt.go ?_
  refine m_nsSet (fun hd => ⟨.type "dict", none, .dict (ent4 hs tk x9 x16 x24 x32 x40 x48 x56 x57 ho (t + 1) md hd (t + 1 + 1)) 3, #[]⟩) D13 2 rfl (by kernel_rfl) (fun hd => by kernel_rfl) (fun _ => rfl) ?_
  intro hd h14 D14
  clear D13
  simp only [List.set_cons_zero, List.set_cons_succ] at  D14
  (repeat (first | exists "sn_str sn_int sn_list sn_function sn_NoneType sn_tuple sn_member_descriptor look_diter", by with_reducible refine wpAny_of_eq (x ..) ?_ | exists "Slots.read nsGet nsSet nsDel setSlotAt updateCls PySem.alloc Slots.install Bind.refreshMaker List.anyM typeLookup", by (with_reducible show wpAny _ _ (@x ..) _ _ _); refine Halt.out ?_ | ((with_reducible show wpAny _ _ (forIn (ent4 ..) _ _) _ _ _); refine Halt.out ?_) | with_reducible refine m_try ?_ | walk_at "mine u"))
  refine Halt.go ?_
  refine m_nsGet (some (.ref x40)) D14 (by (repeat (first | exact List.mem_cons_self | apply List.mem_cons_of_mem))) (by kernel_rfl) ?_
  (repeat (first | exists "sn_str sn_int sn_list sn_function sn_NoneType sn_tuple sn_member_descriptor look_diter", by with_reducible refine wpAny_of_eq (x ..) ?_ | exists "Slots.read nsGet nsSet nsDel setSlotAt updateCls PySem.alloc Slots.install Bind.refreshMaker List.anyM typeLookup", by (with_reducible show wpAny _ _ (@x ..) _ _ _); refine Halt.out ?_ | ((with_reducible show wpAny _ _ (forIn (ent4 ..) _ _) _ _ _); refine Halt.out ?_) | with_reducible refine m_try ?_ | walk_at "mine u"))
  refine Halt.go ?_
  refine m_nsGet (some .none) D14 (by (repeat (first | exact List.mem_cons_self | apply List.mem_cons_of_mem))) (by kernel_rfl) ?_
  (repeat (first | exists "sn_str sn_int sn_list sn_function sn_NoneType sn_tuple sn_member_descriptor look_diter", by with_reducible refine wpAny_of_eq (x ..) ?_ | exists "Slots.read nsGet nsSet nsDel setSlotAt updateCls PySem.alloc Slots.install Bind.refreshMaker List.anyM typeLookup", by (with_reducible show wpAny _ _ (@x ..) _ _ _); refine Halt.out ?_ | ((with_reducible show wpAny _ _ (forIn (ent4 ..) _ _) _ _ _); refine Halt.out ?_) | with_reducible refine m_try ?_ | walk_at "mine u"))
  refine Halt.go ?_
  exact kk ns K md c1 ho hd o1 h14 D14⟩
end Mine.C2
end
section
open PySem PySem.Spec PySem.Calls PySem.W PyProof.Rows PySem.Builtin
set_option maxHeartbeats 0
namespace Mine.C2
local macro_rules | `(tactic| x_close) => `(tactic| (solve_by_elim (maxDepth := 3)))
theorem superMake {prog : Program} {w : World} {E : Value → Shared → Prop} {h : Heap} {g : Array GenState} {d : Drawn} {t : Nat} {os : OsState} {gd : Option (List Code)} {envs : List Env} (K ns : Addr) (B : Addr) (tK tq : Nat) (es : Array DictEntry) (n : Nat)
  {Q : Value → Shared → Prop}
  (hK : h.get? K = some ⟨.type "type", none, .cls { name := "K", bases := [.type "object"], mro := [.ref K, .type "object"], ns := ns, qualname := "cmp_to_key.<locals>.K", hasDict := false, slotNames := ["obj"] }, #[some (.ref B), none, some (.str "K" tK), some (.str "cmp_to_key.<locals>.K" tq), some (.builtin "object.__new__"), some (.bool false)]⟩) (q : ∀ sp h', X.Mem h h' [] [(sp, ⟨.type "super", none, .fields #[.ref K, .ref K, .ref K], #[]⟩)] → Q (.ref sp) ⟨h', g, d, t, os⟩) :
  wpAny (model prog w) ⟨none, 700, some envs, gd, 9500⟩ (call (.type "super") [.ref K, .ref K]) Q E ⟨h, g, d, t, os⟩ := by
  x_run
end Mine.C2
end
local macro_rules | `(tactic| x_close) => `(tactic| solve_by_elim (maxDepth := 4))
section
open PySem PySem.Spec PySem.Calls PySem.W PyProof.Rows PySem.Builtin
set_option maxHeartbeats 0
namespace Mine.C2
theorem own_is : classOwn (.type "object") "__init_subclass__" = pure (some (.builtin "object.__init_subclass__")) := F.own_object (by kernel_rfl)
theorem ty_is : typeOf (.builtin "object.__init_subclass__") = pure (.type "classmethod_descriptor") := by kernel_rfl
theorem look_is : typeLookup (.type "classmethod_descriptor") "__get__" = pure (some (.builtin "classmethod_descriptor.__get__")) := by rw [typeLookup_type, builtinLookup_eq_fast]; kernel_rfl
theorem cmGet {prog : Program} {w : World} {E : Value → Shared → Prop} {h : Heap} {g : Array GenState} {d : Drawn} {t : Nat} {os : OsState} {gd : Option (List Code)} {envs : List Env} (K ns : Addr) (B : Addr) (tK tq : Nat)
  {Q : Value → Shared → Prop}
  {ost : Obj} (hst : h.get? cStatics = some ost) (hst2 : nsLook "thirdparty.any" ost = pure none)
  (hK : h.get? K = some ⟨.type "type", none, .cls { name := "K", bases := [.type "object"], mro := [.ref K, .type "object"], ns := ns, qualname := "cmp_to_key.<locals>.K", hasDict := false, slotNames := ["obj"] }, #[some (.ref B), none, some (.str "K" tK), some (.str "cmp_to_key.<locals>.K" tq), some (.builtin "object.__new__"), some (.bool false)]⟩)
  (q : ∀ b h', X.Mem h h' [] [(b, ⟨.type "builtin_function_or_method", none, .fields #[.builtin "object.__init_subclass__", .ref K], #[]⟩)] → Q (.ref b) ⟨h', g, d, t, os⟩) :
  wpAny (model prog w) ⟨none, 700, some envs, gd, 9500 + 1⟩ (call (.builtin "classmethod_descriptor.__get__") [.builtin "object.__init_subclass__", .none, .ref K]) Q E ⟨h, g, d, t, os⟩ := by
  x_run
theorem isCall {prog : Program} {w : World} {E : Value → Shared → Prop} {h : Heap} {g : Array GenState} {d : Drawn} {t : Nat} {os : OsState} {gd : Option (List Code)} {envs : List Env} (K ns b : Addr) (B : Addr) (tK tq : Nat)
  {Q : Value → Shared → Prop}
  (hK : h.get? K = some ⟨.type "type", none, .cls { name := "K", bases := [.type "object"], mro := [.ref K, .type "object"], ns := ns, qualname := "cmp_to_key.<locals>.K", hasDict := false, slotNames := ["obj"] }, #[some (.ref B), none, some (.str "K" tK), some (.str "cmp_to_key.<locals>.K" tq), some (.builtin "object.__new__"), some (.bool false)]⟩)
  (hb : h.get? b = some ⟨.type "builtin_function_or_method", none, .fields #[.builtin "object.__init_subclass__", .ref K], #[]⟩)
  (q : Q .none ⟨h, g, d, t, os⟩) :
  wpAny (model prog w) ⟨none, 700, some envs, gd, 9500⟩ (call (.ref b) []) Q E ⟨h, g, d, t, os⟩ := by
  x_run
end Mine.C2
end
section
open PySem PySem.Spec PySem.Calls PySem.W PyProof.Rows PySem.Builtin
set_option maxHeartbeats 0
namespace Mine.C2
theorem look_super : typeLookup (.type "super") "__getattribute__" = pure (some (.builtin "super.__getattribute__")) := by rw [typeLookup_type, builtinLookup_eq_fast]; kernel_rfl
theorem bind_super (self : Value) : bindSpecial (.builtin "super.__getattribute__") self = pure (.builtin "super.__getattribute__", [self]) := by kernel_rfl
theorem superGA {prog : Program} {w : World} {E : Value → Shared → Prop} {h : Heap} {g : Array GenState} {d : Drawn} {t : Nat} {os : OsState} {gd : Option (List Code)} {envs : List Env} (K ns sp : Addr) (B : Addr) (tK tq : Nat) (tk : Tok)
  {Q : PySem.Fin → Shared → Prop}
  (hK : h.get? K = some ⟨.type "type", none, .cls { name := "K", bases := [.type "object"], mro := [.ref K, .type "object"], ns := ns, qualname := "cmp_to_key.<locals>.K", hasDict := false, slotNames := ["obj"] }, #[some (.ref B), none, some (.str "K" tK), some (.str "cmp_to_key.<locals>.K" tq), some (.builtin "object.__new__"), some (.bool false)]⟩)
  {ost : Obj} (hst : h.get? cStatics = some ost) (hst2 : nsLook "thirdparty.any" ost = pure none)
  (hsp : h.get? sp = some ⟨.type "super", none, .fields #[.ref K, .ref K, .ref K], #[]⟩)
  (q : ∀ b h', X.Mem h h' [] [(b, ⟨.type "builtin_function_or_method", none, .fields #[.builtin "object.__init_subclass__", .ref K], #[]⟩)] → Q (.done (.ret (.ref b))) ⟨h', g, d, t, os⟩) :
  wpAny (model prog w) ⟨none, 700, some envs, gd, 9500 + 1⟩ (Builtin.«super.__getattribute__» ⟨[.ref sp, .str "__init_subclass__" tk], []⟩) Q E ⟨h, g, d, t, os⟩ := by
  have f0 : (#[.ref K, .ref K, .ref K] : Array Value)[0]? = some (.ref K) := rfl
  have f1 : (#[.ref K, .ref K, .ref K] : Array Value)[1]? = some (.ref K) := rfl
  have f2 : (#[.ref K, .ref K, .ref K] : Array Value)[2]? = some (.ref K) := rfl
  unfold Builtin.«super.__getattribute__»
  (repeat (first | exists "own_is ty_is look_is look_super bind_super", by with_reducible refine wpAny_of_eq (x ..) ?_ | exists "typeLookup classOwn PySem.call", by (with_reducible show wpAny _ _ (@x ..) _ _ _); refine Halt.out ?_ | ((with_reducible show codeAny _ _ _ _ _); refine Halt.out ?_) | ((with_reducible show wpAny _ _ (forIn (List.drop _ _) _ _) _ _ _); refine Halt.out ?_) | exists "wpAny_loadPart wpAny_load", by with_reducible refine x (by assumption) ?_ | ((with_reducible show wpAny _ _ (nsLook _ _) _ _ _); refine wpAny_of_eq (by assumption) ?_) | wp_step))
  refine Halt.go ?_
  rw [show List.drop 1 (List.dropWhile (fun x => x != #[Value.ref K, Value.ref K, Value.ref K][0]) [Value.ref K, Value.type "object"]) = [Value.type "object"] by simp]
  (repeat (first | exists "own_is ty_is look_is look_super bind_super", by with_reducible refine wpAny_of_eq (x ..) ?_ | exists "typeLookup classOwn PySem.call", by (with_reducible show wpAny _ _ (@x ..) _ _ _); refine Halt.out ?_ | ((with_reducible show codeAny _ _ _ _ _); refine Halt.out ?_) | ((with_reducible show wpAny _ _ (forIn (List.drop _ _) _ _) _ _ _); refine Halt.out ?_) | exists "wpAny_loadPart wpAny_load", by with_reducible refine x (by assumption) ?_ | ((with_reducible show wpAny _ _ (nsLook _ _) _ _ _); refine wpAny_of_eq (by assumption) ?_) | wp_step))
  refine Halt.go ?_
  rw [if_pos]
  rotate_left
  · simp
  refine cmGet K ns B tK tq hst hst2 hK ?_
  intro b h' D
  (repeat (first | exists "own_is ty_is look_is look_super bind_super", by with_reducible refine wpAny_of_eq (x ..) ?_ | exists "typeLookup classOwn PySem.call", by (with_reducible show wpAny _ _ (@x ..) _ _ _); refine Halt.out ?_ | ((with_reducible show codeAny _ _ _ _ _); refine Halt.out ?_) | ((with_reducible show wpAny _ _ (forIn (List.drop _ _) _ _) _ _ _); refine Halt.out ?_) | exists "wpAny_loadPart wpAny_load", by with_reducible refine x (by assumption) ?_ | ((with_reducible show wpAny _ _ (nsLook _ _) _ _ _); refine wpAny_of_eq (by assumption) ?_) | wp_step))
  exact q b h' D
theorem superAttr {prog : Program} {w : World} {E : Value → Shared → Prop} {h : Heap} {g : Array GenState} {d : Drawn} {t : Nat} {os : OsState} {gd : Option (List Code)} {envs : List Env} (K ns sp : Addr) (B : Addr) (tK tq : Nat)
  {Q : Value → Shared → Prop}
  (hK : h.get? K = some ⟨.type "type", none, .cls { name := "K", bases := [.type "object"], mro := [.ref K, .type "object"], ns := ns, qualname := "cmp_to_key.<locals>.K", hasDict := false, slotNames := ["obj"] }, #[some (.ref B), none, some (.str "K" tK), some (.str "cmp_to_key.<locals>.K" tq), some (.builtin "object.__new__"), some (.bool false)]⟩)
  {ost : Obj} (hst : h.get? cStatics = some ost) (hst2 : nsLook "thirdparty.any" ost = pure none)
  (hsp : h.get? sp = some ⟨.type "super", none, .fields #[.ref K, .ref K, .ref K], #[]⟩)
  (q : ∀ b h', X.Mem h h' [] [(b, ⟨.type "builtin_function_or_method", none, .fields #[.builtin "object.__init_subclass__", .ref K], #[]⟩)] → Q (.ref b) ⟨h', g, d, t + 1, os⟩) :
  wpAny (model prog w) ⟨none, 700, some envs, gd, 9500⟩ (getAttr (.ref sp) "__init_subclass__") Q E ⟨h, g, d, t, os⟩ := by
  (repeat (first | exists "own_is ty_is look_is look_super bind_super", by with_reducible refine wpAny_of_eq (x ..) ?_ | exists "typeLookup classOwn PySem.call", by (with_reducible show wpAny _ _ (@x ..) _ _ _); refine Halt.out ?_ | ((with_reducible show codeAny _ _ _ _ _); refine Halt.out ?_) | ((with_reducible show wpAny _ _ (forIn (List.drop _ _) _ _) _ _ _); refine Halt.out ?_) | exists "wpAny_loadPart wpAny_load", by with_reducible refine x (by assumption) ?_ | ((with_reducible show wpAny _ _ (nsLook _ _) _ _ _); refine wpAny_of_eq (by assumption) ?_) | wp_step))
  refine Halt.go ?_
  refine wpAny_mono (Q := fun r s' => ∃ b h', r = .ref b ∧ s' = ⟨h', g, d, t + 1, os⟩ ∧ X.Mem h h' [] [(b, ⟨.type "builtin_function_or_method", none, .fields #[.builtin "object.__init_subclass__", .ref K], #[]⟩)]) (E := fun _ _ => False) (wpAny_call_entry F.ks_slot_super_ga (T := "super") ⟨_, hsp, rfl⟩ F.ks_entry_super_ga
    (superGA K ns sp B tK tq t hK hst hst2 hsp fun b h' D => ⟨_, rfl, b, h', rfl, rfl, D⟩) (F.ks_gaArgs_super _ _)) ?_ fun _ _ z => z.elim
  rintro a s' ⟨b, h', rfl, rfl, D⟩
  (repeat (first | exists "own_is ty_is look_is look_super bind_super", by with_reducible refine wpAny_of_eq (x ..) ?_ | exists "typeLookup classOwn PySem.call", by (with_reducible show wpAny _ _ (@x ..) _ _ _); refine Halt.out ?_ | ((with_reducible show codeAny _ _ _ _ _); refine Halt.out ?_) | ((with_reducible show wpAny _ _ (forIn (List.drop _ _) _ _) _ _ _); refine Halt.out ?_) | exists "wpAny_loadPart wpAny_load", by with_reducible refine x (by assumption) ?_ | ((with_reducible show wpAny _ _ (nsLook _ _) _ _ _); refine wpAny_of_eq (by assumption) ?_) | wp_step))
  exact q b h' D
end Mine.C2
end
section
open PySem PySem.Spec PySem.Calls PySem.W PyProof.Rows PySem.Builtin
set_option maxHeartbeats 0
namespace Mine.C2
noncomputable def Led (h₀ h : Heap) (news : List (Addr × Obj)) : Prop := (∀ b o, h₀.get? b = some o → h.get? b = some o) ∧ ∀ p ∈ news, h.get? p.1 = some p.2 ∧ h₀.get? p.1 = none
theorem Led.of {h₀ h : Heap} {news : List (Addr × Obj)} (D : X.Mem h₀ h [] news) : Led h₀ h news := ⟨fun b o e => D.keep b o e (by simp [X.away]), D.nw⟩
theorem Led.none {h h' : Heap} {b : Addr} (k : ∀ b o, h.get? b = some o → h'.get? b = some o) (e : h'.get? b = Option.none) : h.get? b = Option.none := by
  cases q : h.get? b with
  | none => rfl
  | some o => rw [k b o q] at e; cases e
theorem Led.trans {h₀ h h' : Heap} {n₁ n₂ : List (Addr × Obj)} (D : Led h₀ h n₁) (D' : Led h h' n₂) : Led h₀ h' (n₂ ++ n₁) :=
  ⟨fun b o e => D'.1 b o (D.1 b o e), fun p hp => by
    rcases List.mem_append.mp hp with hp | hp
    · exact ⟨(D'.2 p hp).1, Led.none D.1 (D'.2 p hp).2⟩
    · exact ⟨D'.1 _ _ (D.2 p hp).1, (D.2 p hp).2⟩⟩
theorem Led.sub {h₀ h : Heap} {n₁ n₂ : List (Addr × Obj)} (D : Led h₀ h n₁) (s : ∀ p ∈ n₂, p ∈ n₁) : Led h₀ h n₂ := ⟨D.1, fun p hp => D.2 p (s p hp)⟩

noncomputable abbrev endK (B ns K md : Addr) (tK t : Nat) (hs : Nat → Int) (tk : Nat → Nat) (x9 x16 x24 x32 x40 x48 x56 x57 : Addr) (ho hd : Int) : List (Addr × Obj) := [
  (md, ⟨.type "member_descriptor", none, .fields #[.str "obj" t, .ref K, .builtin "proto.slot", .builtin "proto.slot#set", .int 0 0], #[]⟩),
  (K, ⟨.type "type", none, .cls { name := "K", bases := [.type "object"], mro := [.ref K, .type "object"], ns := ns, qualname := "cmp_to_key.<locals>.K", hasDict := false, slotNames := ["obj"] }, #[some (.ref B), none, some (.str "K" tK), some (.str "cmp_to_key.<locals>.K" (tk 3)), some (.builtin "object.__new__"), some (.bool false)]⟩), (ns, ⟨.type "dict", none, .dict (ent4 hs tk x9 x16 x24 x32 x40 x48 x56 x57 ho (t + 1) md hd (t + 1 + 1)) 3, #[]⟩)]
theorem stB {prog : Program} {w : World} {gd : Option (List Code)} {envs : List Env} {E : Value → Shared → Prop} {h₀ : Heap} {g : Array GenState} {d : Drawn} {t : Nat} {os : OsState} (B N : Addr) (tK t9 : Nat) (hs : Nat → Int) (tk : Nat → Nat) (x9 x16 x24 x32 x40 x48 x56 x57 : Addr)
   {Q : PySem.Fin → Shared → Prop}
   (hB : h₀.get? B = some ⟨.type "tuple", none, .seq #[.type "object"] 0, #[]⟩)
   (hN : h₀.get? N = some ⟨.type "dict", none, .dict (ent hs tk x9 x16 x24 x32 x40 x48 x56 x57) 12, #[]⟩) (hNs : (N == sysModules) = false)
   (h9 : h₀.get? x9 = some ⟨.type "list", none, .seq #[.str "obj" t9] 0, #[]⟩)
   {ost : Obj} (hst : h₀.get? cStatics = some ost) (hst2 : nsLook "thirdparty.any" ost = pure none)
   {d57 : Data}
   {d16 : Data} (h16 : h₀.get? x16 = some ⟨.type "function", none, d16, #[]⟩)
   {d24 : Data} (h24 : h₀.get? x24 = some ⟨.type "function", none, d24, #[]⟩)
   {d32 : Data} (h32 : h₀.get? x32 = some ⟨.type "function", none, d32, #[]⟩)
   {d40 : Data} (h40 : h₀.get? x40 = some ⟨.type "function", none, d40, #[]⟩)
   {d48 : Data} (h48 : h₀.get? x48 = some ⟨.type "function", none, d48, #[]⟩)
   {d56 : Data} (h56 : h₀.get? x56 = some ⟨.type "function", none, d56, #[]⟩)
   (h57 : h₀.get? x57 = some ⟨.type "tuple", none, d57, #[]⟩)
   (q : ∀ K ns md ho hd h', Led h₀ h' (endK B ns K md tK t hs tk x9 x16 x24 x32 x40 x48 x56 x57 ho hd) → Q (.done (.ret (.ref K))) ⟨h', g, d, t + 4, os⟩) (ns K md c1 : Addr) (ho hd : Int) (o1 : Obj) (h14 : Heap) (D14 : X.Mem h₀ h14 [] (newsK B ns K md c1 tK t hs tk x9 x16 x24 x32 x40 x48 x56 x57 ho hd o1)) :
   (stA (prog := prog) (w := w) (A := ⟨none, 700, some envs, gd, 9500⟩) (E := E) (g := g) (d := d) (t := t) (os := os) (Q := Q) B N tK t9 hs tk x9 x16 x24 x32 x40 x48 x56 x57 hB hN hNs h9).1 ns K md c1 ho hd o1 h14 := by
  delta stA
  dsimp only
  refine m_forA (l := _) rfl ?_
  refine m_forKeep (fun x hx => ?_) ?_
  · simp only [ent4, List.mem_cons, List.not_mem_nil, or_false] at hx
    rcases hx with rfl | rfl | rfl | rfl | rfl | rfl | rfl | rfl | rfl | rfl | rfl | rfl | rfl
    all_goals (intro Q' q'; (repeat (first | exists "PySem.call PySem.getAttr", by (with_reducible show wpAny _ _ (@x ..) _ _ _); refine Halt.out ?_ | exists "sn_str sn_int sn_list sn_function sn_NoneType sn_tuple sn_member_descriptor look_diter", by with_reducible refine wpAny_of_eq (x ..) ?_ | exists "Slots.read nsGet nsSet nsDel setSlotAt updateCls PySem.alloc Slots.install Bind.refreshMaker List.anyM typeLookup", by (with_reducible show wpAny _ _ (@x ..) _ _ _); refine Halt.out ?_ | ((with_reducible show wpAny _ _ (forIn (ent4 ..) _ _) _ _ _); refine Halt.out ?_) | with_reducible refine m_try ?_ | walk_at "mine u")); exact q')
  (repeat (first | exists "PySem.call PySem.getAttr", by (with_reducible show wpAny _ _ (@x ..) _ _ _); refine Halt.out ?_ | exists "sn_str sn_int sn_list sn_function sn_NoneType sn_tuple sn_member_descriptor look_diter", by with_reducible refine wpAny_of_eq (x ..) ?_ | exists "Slots.read nsGet nsSet nsDel setSlotAt updateCls PySem.alloc Slots.install Bind.refreshMaker List.anyM typeLookup", by (with_reducible show wpAny _ _ (@x ..) _ _ _); refine Halt.out ?_ | ((with_reducible show wpAny _ _ (forIn (ent4 ..) _ _) _ _ _); refine Halt.out ?_) | with_reducible refine m_try ?_ | walk_at "mine u"))
  refine Halt.go ?_
  refine m_forA (l := _) rfl ?_
  refine m_forKeep (fun x hx => ?_) ?_
  · simp only [ent4, List.mem_cons, List.not_mem_nil, or_false] at hx
    rcases hx with rfl | rfl | rfl | rfl | rfl | rfl | rfl | rfl | rfl | rfl | rfl | rfl | rfl
    all_goals (intro Q' q'; refine wpAny_ite_false (by kernel_rfl) ?_; (repeat (first | exists "PySem.call PySem.getAttr", by (with_reducible show wpAny _ _ (@x ..) _ _ _); refine Halt.out ?_ | exists "sn_str sn_int sn_list sn_function sn_NoneType sn_tuple sn_member_descriptor look_diter", by with_reducible refine wpAny_of_eq (x ..) ?_ | exists "Slots.read nsGet nsSet nsDel setSlotAt updateCls PySem.alloc Slots.install Bind.refreshMaker List.anyM typeLookup", by (with_reducible show wpAny _ _ (@x ..) _ _ _); refine Halt.out ?_ | ((with_reducible show wpAny _ _ (forIn (ent4 ..) _ _) _ _ _); refine Halt.out ?_) | with_reducible refine m_try ?_ | walk_at "mine u")))
    all_goals exact q'
  (repeat (first | exists "PySem.call PySem.getAttr", by (with_reducible show wpAny _ _ (@x ..) _ _ _); refine Halt.out ?_ | exists "sn_str sn_int sn_list sn_function sn_NoneType sn_tuple sn_member_descriptor look_diter", by with_reducible refine wpAny_of_eq (x ..) ?_ | exists "Slots.read nsGet nsSet nsDel setSlotAt updateCls PySem.alloc Slots.install Bind.refreshMaker List.anyM typeLookup", by (with_reducible show wpAny _ _ (@x ..) _ _ _); refine Halt.out ?_ | ((with_reducible show wpAny _ _ (forIn (ent4 ..) _ _) _ _ _); refine Halt.out ?_) | with_reducible refine m_try ?_ | walk_at "mine u"))
  refine Halt.go ?_
  refine superMake K ns B tK (tk 3) #[] 0 (m_get D14 (by (repeat (first | exact List.mem_cons_self | apply List.mem_cons_of_mem)))) ?_
  intro sp h15 D15
  (repeat (first | exists "PySem.call PySem.getAttr", by (with_reducible show wpAny _ _ (@x ..) _ _ _); refine Halt.out ?_ | exists "sn_str sn_int sn_list sn_function sn_NoneType sn_tuple sn_member_descriptor look_diter", by with_reducible refine wpAny_of_eq (x ..) ?_ | exists "Slots.read nsGet nsSet nsDel setSlotAt updateCls PySem.alloc Slots.install Bind.refreshMaker List.anyM typeLookup", by (with_reducible show wpAny _ _ (@x ..) _ _ _); refine Halt.out ?_ | ((with_reducible show wpAny _ _ (forIn (ent4 ..) _ _) _ _ _); refine Halt.out ?_) | with_reducible refine m_try ?_ | walk_at "mine u"))
  refine Halt.go ?_
  refine superAttr K ns sp B tK (tk 3) (D15.keep _ _ (m_get D14 (by (repeat (first | exact List.mem_cons_self | apply List.mem_cons_of_mem)))) rfl) (D15.keep _ _ (D14.keep _ _ hst (by simp [X.away])) (by simp [X.away])) hst2 (m_get D15 (by (repeat (first | exact List.mem_cons_self | apply List.mem_cons_of_mem)))) ?_
  intro b h16 D16
  (repeat (first | exists "PySem.call PySem.getAttr", by (with_reducible show wpAny _ _ (@x ..) _ _ _); refine Halt.out ?_ | exists "sn_str sn_int sn_list sn_function sn_NoneType sn_tuple sn_member_descriptor look_diter", by with_reducible refine wpAny_of_eq (x ..) ?_ | exists "Slots.read nsGet nsSet nsDel setSlotAt updateCls PySem.alloc Slots.install Bind.refreshMaker List.anyM typeLookup", by (with_reducible show wpAny _ _ (@x ..) _ _ _); refine Halt.out ?_ | ((with_reducible show wpAny _ _ (forIn (ent4 ..) _ _) _ _ _); refine Halt.out ?_) | with_reducible refine m_try ?_ | walk_at "mine u"))
  refine Halt.go ?_
  refine isCall K ns b B tK (tk 3) (D16.keep _ _ (D15.keep _ _ (m_get D14 (by (repeat (first | exact List.mem_cons_self | apply List.mem_cons_of_mem)))) rfl) rfl) (m_get D16 (by (repeat (first | exact List.mem_cons_self | apply List.mem_cons_of_mem)))) ?_
  (repeat (first | exists "PySem.call PySem.getAttr", by (with_reducible show wpAny _ _ (@x ..) _ _ _); refine Halt.out ?_ | exists "sn_str sn_int sn_list sn_function sn_NoneType sn_tuple sn_member_descriptor look_diter", by with_reducible refine wpAny_of_eq (x ..) ?_ | exists "Slots.read nsGet nsSet nsDel setSlotAt updateCls PySem.alloc Slots.install Bind.refreshMaker List.anyM typeLookup", by (with_reducible show wpAny _ _ (@x ..) _ _ _); refine Halt.out ?_ | ((with_reducible show wpAny _ _ (forIn (ent4 ..) _ _) _ _ _); refine Halt.out ?_) | with_reducible refine m_try ?_ | walk_at "mine u"))
  refine q K ns md ho hd h16 (((Led.of D14).trans ((Led.of D15).trans (Led.of D16))).sub fun p hp => ?_)
  exact (by (repeat refine sub_c (by repeat (first | exact List.mem_cons_self | apply List.mem_cons_of_mem)) ?_); exact sub_e : ∀ p ∈ _, p ∈ _) p hp
theorem type_new_K {prog : Program} {w : World} {gd : Option (List Code)} {envs : List Env} {E : Value → Shared → Prop} {h₀ : Heap} {g : Array GenState} {d : Drawn} {t : Nat} {os : OsState} (B N : Addr) (tK t9 : Nat) (hs : Nat → Int) (tk : Nat → Nat) (x9 x16 x24 x32 x40 x48 x56 x57 : Addr)
   {Q : PySem.Fin → Shared → Prop}
   (hB : h₀.get? B = some ⟨.type "tuple", none, .seq #[.type "object"] 0, #[]⟩)
   (hN : h₀.get? N = some ⟨.type "dict", none, .dict (ent hs tk x9 x16 x24 x32 x40 x48 x56 x57) 12, #[]⟩) (hNs : (N == sysModules) = false)
   (h9 : h₀.get? x9 = some ⟨.type "list", none, .seq #[.str "obj" t9] 0, #[]⟩)
   {ost : Obj} (hst : h₀.get? cStatics = some ost) (hst2 : nsLook "thirdparty.any" ost = pure none)
   {d57 : Data}
   {d16 : Data} (h16 : h₀.get? x16 = some ⟨.type "function", none, d16, #[]⟩)
   {d24 : Data} (h24 : h₀.get? x24 = some ⟨.type "function", none, d24, #[]⟩)
   {d32 : Data} (h32 : h₀.get? x32 = some ⟨.type "function", none, d32, #[]⟩)
   {d40 : Data} (h40 : h₀.get? x40 = some ⟨.type "function", none, d40, #[]⟩)
   {d48 : Data} (h48 : h₀.get? x48 = some ⟨.type "function", none, d48, #[]⟩)
   {d56 : Data} (h56 : h₀.get? x56 = some ⟨.type "function", none, d56, #[]⟩)
   (h57 : h₀.get? x57 = some ⟨.type "tuple", none, d57, #[]⟩)
   (q : ∀ K ns md ho hd h', Led h₀ h' (endK B ns K md tK t hs tk x9 x16 x24 x32 x40 x48 x56 x57 ho hd) → Q (.done (.ret (.ref K))) ⟨h', g, d, t + 4, os⟩) :
   wpAny (model prog w) ⟨none, 700, some envs, gd, 9500⟩ (Builtin.«type.__new__» ⟨[.type "type", .str "K" tK, .ref B, .ref N], []⟩) Q E ⟨h₀, g, d, t, os⟩ :=
  (stA B N tK t9 hs tk x9 x16 x24 x32 x40 x48 x56 x57 hB hN hNs h9).2 fun ns K md c1 ho hd o1 h14 D => stB B N tK t9 hs tk x9 x16 x24 x32 x40 x48 x56 x57 hB hN hNs h9 hst hst2 h16 h24 h32 h40 h48 h56 h57 q ns K md c1 ho hd o1 h14 D
end Mine.C2
end
section
open PySem PySem.Spec PySem.Calls PySem.W PyProof.Rows PySem.Builtin
set_option maxHeartbeats 0
namespace Mine.C2
theorem wpAny_down {α : Type} {M : Model} {A : Around} {t : Sem α} {Q : α → Shared → Prop} {E : Value → Shared → Prop} {s : Shared} {hd : Option Value} {fr : Option (List Env)} {gd : Option (List Code)} {dep un : Nat} (h : wpAny M ⟨hd, dep, fr, gd, un⟩ t Q E s)
  (e1 : A.handled = hd) (e2 : A.depth ≤ dep) (e3 : A.frames = fr) (e4 : A.guards = gd) (e5 : A.units ≤ un) : wpAny M A t Q E s := fun Γ p hΓ => h Γ p
  ⟨hΓ.1.trans e1, Nat.le_trans hΓ.2.1 e2, fun l hl => hΓ.2.2.1 l (e3.trans hl), fun l hl => hΓ.2.2.2.1 l (e4.trans hl), Nat.le_trans hΓ.2.2.2.2 e5⟩
theorem ctc_type (a b c : Value) : checkTypeCall "type" ⟨[a, b, c], []⟩ = pure () := by kernel_rfl
theorem made_type : Bind.madeBy (.type "type") = pure (some "type.__new__") := by kernel_rfl
theorem mro_type : mroOf (.type "type") = pure [.type "type", .type "object"] := by rw [mroOf_type]; kernel_rfl
theorem newCall_type (a b c : Value) : checkBuiltinCall "type.__new__" ⟨[.type "type", a, b, c], []⟩ = pure () := by kernel_rfl
theorem look_tinit : typeLookup (.type "type") "__init__" = pure (some (.builtin "type.__init__")) := by rw [typeLookup_type, builtinLookup_eq_fast]; kernel_rfl
theorem bind_tinit (self : Value) : bindSpecial (.builtin "type.__init__") self = pure (.builtin "type.__init__", [self]) := by kernel_rfl
theorem entry_tnew : entryFor table "type.__new__" = some Builtin.«type.__new__» := entryFor_of_tree (by kernel_rfl)
theorem plain_tnew : plainId "type.__new__" = true := by decide +kernel
theorem tinitCall {prog : Program} {w : World} {E : Value → Shared → Prop} {h : Heap} {g : Array GenState} {d : Drawn} {t : Nat} {os : OsState} {gd : Option (List Code)} {envs : List Env} (K ns N : Addr) (B : Addr) (tK tq : Nat)
  {Q : Value → Shared → Prop}
  (hK : h.get? K = some ⟨.type "type", none, .cls { name := "K", bases := [.type "object"], mro := [.ref K, .type "object"], ns := ns, qualname := "cmp_to_key.<locals>.K", hasDict := false, slotNames := ["obj"] }, #[some (.ref B), none, some (.str "K" tK), some (.str "cmp_to_key.<locals>.K" tq), some (.builtin "object.__new__"), some (.bool false)]⟩)
  (q : Q .none ⟨h, g, d, t, os⟩) :
  wpAny (model prog w) ⟨none, 700, some envs, gd, 9500⟩ (call (.builtin "type.__init__") [.ref K, .str "K" tK, .ref B, .ref N]) Q E ⟨h, g, d, t, os⟩ := by
  x_run
theorem type_call_K {prog : Program} {w : World} {gd : Option (List Code)} {envs : List Env} {E : Value → Shared → Prop} {h₀ : Heap} {g : Array GenState} {d : Drawn} {t : Nat} {os : OsState} (B N : Addr) (tK t9 : Nat) (hs : Nat → Int) (tk : Nat → Nat) (x9 x16 x24 x32 x40 x48 x56 x57 : Addr)
   {Q : Value → Shared → Prop}
   (hB : h₀.get? B = some ⟨.type "tuple", none, .seq #[.type "object"] 0, #[]⟩)
   (hN : h₀.get? N = some ⟨.type "dict", none, .dict (ent hs tk x9 x16 x24 x32 x40 x48 x56 x57) 12, #[]⟩) (hNs : (N == sysModules) = false)
   (h9 : h₀.get? x9 = some ⟨.type "list", none, .seq #[.str "obj" t9] 0, #[]⟩)
   {ost : Obj} (hst : h₀.get? cStatics = some ost) (hst2 : nsLook "thirdparty.any" ost = pure none)
   {d57 : Data}
   {d16 : Data} (h16 : h₀.get? x16 = some ⟨.type "function", none, d16, #[]⟩)
   {d24 : Data} (h24 : h₀.get? x24 = some ⟨.type "function", none, d24, #[]⟩)
   {d32 : Data} (h32 : h₀.get? x32 = some ⟨.type "function", none, d32, #[]⟩)
   {d40 : Data} (h40 : h₀.get? x40 = some ⟨.type "function", none, d40, #[]⟩)
   {d48 : Data} (h48 : h₀.get? x48 = some ⟨.type "function", none, d48, #[]⟩)
   {d56 : Data} (h56 : h₀.get? x56 = some ⟨.type "function", none, d56, #[]⟩)
   (h57 : h₀.get? x57 = some ⟨.type "tuple", none, d57, #[]⟩)
   (q : ∀ K ns md ho hd h', Led h₀ h' (endK B ns K md tK t hs tk x9 x16 x24 x32 x40 x48 x56 x57 ho hd) → Q (.ref K) ⟨h', g, d, t + 4, os⟩) :
   wpAny (model prog w) ⟨none, 690, some envs, gd, 9400⟩ (call (.type "type") [.str "K" tK, .ref B, .ref N]) Q E ⟨h₀, g, d, t, os⟩ := by
  refine wpAny_call (codeAny_of_tree ?_)
  show wpAny _ _ (callAny (.type "type") _) _ _ _
  refine wpAny_pure ⟨Code.quiet_builtin _ (by decide +kernel), codeAny_builtin entry_type_call ?_⟩
  rw [Around.under_plain (weight_type_call_type "type" _ []) rfl]
  unfold Builtin.«type.__call__»
  (repeat (first | exists "made_type sub_type mro_type ctc_type look_tinit bind_tinit", by with_reducible refine wpAny_of_eq (x ..) ?_ | exists "PySem.call", by (with_reducible show wpAny _ _ (@x ..) _ _ _); refine Halt.out ?_ | ((with_reducible show codeAny _ _ _ _ _); refine Halt.out ?_) | exists "wpAny_loadPart wpAny_load", by with_reducible refine x (by assumption) ?_ | wp_step))
  refine Halt.go ?_
  refine wpAny_call (codeAny_call_builtin plain_tnew entry_tnew (wpAny_of_eq (newCall_type _ _ _) ?_))
  refine wpAny_down (type_new_K B N tK t9 hs tk x9 x16 x24 x32 x40 x48 x56 x57 hB hN hNs h9 hst hst2 h16 h24 h32 h40 h48 h56 h57 fun K ns md ho hd h' D => ?_) rfl (Nat.le_of_ble_eq_true rfl) rfl rfl (Nat.le_of_ble_eq_true rfl)
  have hK := (D.2 _ (List.mem_cons_of_mem _ List.mem_cons_self)).1
  dsimp only at hK
  dsimp only
  (repeat (first | exists "made_type sub_type mro_type ctc_type look_tinit bind_tinit", by with_reducible refine wpAny_of_eq (x ..) ?_ | exists "PySem.call", by (with_reducible show wpAny _ _ (@x ..) _ _ _); refine Halt.out ?_ | ((with_reducible show codeAny _ _ _ _ _); refine Halt.out ?_) | exists "wpAny_loadPart wpAny_load", by with_reducible refine x (by assumption) ?_ | wp_step))
  refine Halt.go ?_
  refine wpAny_down (tinitCall K ns N B tK (tk 3) hK ?_) rfl (Nat.le_of_ble_eq_true rfl) rfl rfl (Nat.le_of_ble_eq_true rfl)
  (repeat (first | exists "made_type sub_type mro_type ctc_type look_tinit bind_tinit", by with_reducible refine wpAny_of_eq (x ..) ?_ | exists "PySem.call", by (with_reducible show wpAny _ _ (@x ..) _ _ _); refine Halt.out ?_ | ((with_reducible show codeAny _ _ _ _ _); refine Halt.out ?_) | exists "wpAny_loadPart wpAny_load", by with_reducible refine x (by assumption) ?_ | wp_step))
  exact q K ns md ho hd h' D
end Mine.C2
end
section
open PySem PySem.Spec PySem.Calls PySem.W PyProof.Rows PySem.Builtin
set_option genInjectivity false
set_option genSizeOf false
set_option maxHeartbeats 400000
namespace Mine.C2
inductive HdO (oc : Obj) (c P : Addr) : Prop
  | mk (vs : Array Value) (file : Str) (tf : Tok) (flags : Int) (tg : Tok) (inF : Bool) (text : Int) (tt : Tok) (r1 : oc.cls = .type "code") (r2 : oc.data = .fields vs) (r3 : vs[11]? = some (.ref P)) (r4 : vs.getD 11 .none = .ref P) (r5 : vs.getD 18 .none = .str file tf)
    (r6 : vs.getD 7 .none = .int flags tg) (r7 : vs.getD 9 .none = .bool inF) (r8 : vs.getD 10 .none = .int text tt) (r9 : c ≠ P)
theorem HdO.hd {oc : Obj} {c P : Addr} {h : Heap} (x : HdO oc c P) (e : h.get? c = some oc) : CodeHd h c P := by
  obtain ⟨vs, file, tf, flags, tg, inF, text, tt, r1, r2, r3, r4, r5, r6, r7, r8, r9⟩ := x
  exact ⟨oc, vs, file, tf, flags, tg, inF, text, tt, e, r1, r2, r3, r4, r5, r6, r7, r8, r9⟩
section
variable {M : Model} {A : Around} {E : Value → Shared → Prop} {h₀ h : Heap} {chg news : List (Addr × Obj)} {g : Array GenState} {d : Drawn} {t : Nat} {os : OsState}
theorem m_newCode {ctx : CodeContext} {name qualname : Str} {firstLine flags : Nat} {free : List Str} {isFunction : Bool} {Q : Value → Shared → Prop} (D : X.Mem h₀ h chg news)
    (q : ∀ c P tp oc ot h' tk, X.Mem h₀ h' chg ((c, oc) :: (P, X.tableObj #[]) :: (tp, ot) :: news) → HdO oc c P → Q (.ref c) ⟨h', g, d, tk, os⟩) :
    wpAny M A (newCode ctx name qualname firstLine 0 0 0 flags free isFunction) Q E ⟨h, g, d, t, os⟩ := by
  unfold newCode
  refine wpAny_bind (wpAny_mkText (wpAny_bind (wpAny_mkText (wpAny_bind (wpAny_mkText (wpAny_bind (wpAny_mkStrs fun fs =>
    wpAny_bind (wpAny_newObjAsIs_type (wpAny_bind (wpAny_alloc ?_))))))))))
  refine wpAny_bind (wpAny_pure (wpAny_bind (wpAny_pure (wpAny_bind (wpAny_pure (wpAny_bind (wpAny_fresh (wpAny_bind (wpAny_mkText (wpAny_newObj_type ?_ (by size_fits)))))))))))
  have D1 := D.alloc (o := { cls := .type "tuple", dict := none, data := .seq fs.toArray }) rfl
  have D2 := D1.alloc (o := X.tableObj #[]) rfl
  have D3 := fun o hf => D2.alloc (o := o) hf
  refine q _ _ _ _ _ _ _ (D3 _ rfl) ⟨_, _, _, _, _, _, _, _, rfl, rfl, rfl, rfl, rfl, rfl, rfl, rfl, (D2.alloc (o := X.tableObj #[]) rfl).ne 0 1 _ _ _ _ rfl rfl rfl⟩
theorem m_classCode {env : Env} {c P : Addr} {pos : Pos} {firstLine : Nat} {name qualname : Str} {scope : Scope} {Q : Value → Shared → Prop} (D : X.Mem h₀ h [] news) (hc : env.code = .ref c) (C : CodeHd h₀ c P) (hP : h₀.get? P = some (X.tableObj #[]))
    (q : ∀ c' P' tp oc ot h' tk, X.Mem h₀ h' [(P, X.tableObj (#[] ++ #[rawInt pos.line, rawInt pos.col, .ref c']))] ((c', oc) :: (P', X.tableObj #[]) :: (tp, ot) :: news) → HdO oc c' P' → Q (.ref c') ⟨h', g, d, tk, os⟩) :
    wpAny M A (classCode env pos firstLine name qualname scope) Q E ⟨h, g, d, t, os⟩ := by
  obtain ⟨o, vs, file, tf, flags, tg, inF, text, tt, e, e1, e2, e3, f3, f4, f5, f6, f7, f11⟩ := C
  have kp : ∀ {h' : Heap} {n : List (Addr × Obj)}, X.Mem h₀ h' [] n → ∀ b o, h₀.get? b = some o → h'.get? b = some o := fun D b o e => D.keep b o e (by simp [X.away])
  unfold classCode codeAt
  rw [hc, if_neg (show ¬ ((Value.ref c == Value.none) = true) from Bool.false_ne_true)]
  refine wpAny_bind (wpAny_fieldsOf (kp D _ _ e) e2 ?_)
  rw [f3]
  refine wpAny_bind (wpAny_fieldsOf (kp D _ _ hP) rfl ?_)
  rw [show codeAmong pos (#[] : Array Value).toList = none from rfl, f4, f5, f6, f7]
  refine wpAny_bind (m_newCode D fun c' P' tp oc ot h' tk D' H => ?_)
  refine wpAny_bind (wpAny_updateFieldsOfTheText (kp D' _ _ hP) rfl ?_)
  have D2 := D'.grow (a := P) (c := c) (ps := #[]) (more := #[rawInt pos.line, rawInt pos.col, .ref c']) (f := Obj.mapFields fun vs => if (codeAmong pos vs.toList).isSome = true then vs else vs ++ #[rawInt pos.line, rawInt pos.col, .ref c'])
    ⟨⟨o, vs, e, e1, e2, e3⟩, hP⟩ rfl rfl
  refine wpAny_bind (wpAny_fieldsOf (D2.atC 0 _ _ rfl) rfl ?_)
  have hl : codeAmong pos (#[] ++ #[rawInt pos.line, rawInt pos.col, Value.ref c']).toList = some (.ref c') := by simp [codeAmong, rawInt]
  rw [hl]
  exact wpAny_pure (q c' P' tp oc ot _ _ D2 H)
theorem Mem_keeps {h' : Heap} (D : X.Mem h₀ h chg news) (k : ∀ b o, h.get? b = some o → h'.get? b = some o) : X.Mem h₀ h' chg news :=
  ⟨fun b o e q => k _ _ (D.keep b o e q), fun p hp => ⟨k _ _ (D.ch p hp).1, (D.ch p hp).2⟩, D.cd, fun p hp => ⟨k _ _ (D.nw p hp).1, (D.nw p hp).2⟩, D.ord⟩
theorem Mem_none (D : X.Mem h₀ h chg news) {a : Addr} (hn : h.get? a = none) : h₀.get? a = none := by
  cases q : h₀.get? a with
  | none => rfl
  | some o =>
    obtain ⟨o', e⟩ := D.there q
    rw [hn] at e; cases e
theorem Mem_add {a : Addr} {o : Obj} (D : X.Mem h₀ h chg news) (e : h.get? a = some o) (hn : h₀.get? a = none) (lt : ∀ p ∈ news, p.1 < a) : X.Mem h₀ h chg ((a, o) :: news) :=
  ⟨D.keep, D.ch, D.cd, fun p hp => by
    rcases List.mem_cons.mp hp with rfl | hp
    · exact ⟨e, hn⟩
    · exact D.nw p hp, by
    rw [List.map_cons]
    refine List.pairwise_cons.mpr ⟨fun x hx => ?_, D.ord⟩
    obtain ⟨p, hp, rfl⟩ := List.mem_map.mp hx
    exact lt p hp⟩
theorem m_makeFunction {name qual : Str} {params : Arguments} {body : List Stmt} {scope : Scope} {env : Env} {c P : Addr} {ps : Array Value} {pos : Pos} {firstLine : Nat} {mg : Str → Option Value} {clos : List (Str × Addr)} {oc : Obj} {Q : Value → Shared → Prop}
    (D : X.Mem h₀ h chg news) (i : Nat) (hi : news[i]? = some (P, X.tableObj ps)) (hc : (c, oc) ∈ news) (H : HdO oc c P) (ht : TriplesOk ps.toList) (hnf : codeAmong pos ps.toList = none)
    (hcl : closureFor scope env = pure clos) (hge : env.globals = mainGlobals) (hcode : env.code = .ref c) (hg : h₀.Ns mainGlobals mg) (hgk : X.away chg mainGlobals = true) (hb : ∃ bm o, mg "__builtins__" = some (.ref bm) ∧ bm ≠ builtinsNs ∧ bm ≠ mainGlobals ∧ h₀.get? bm = some o ∧ o.cls = .type "module" ∧ o.dict = some builtinsNs ∧ o.data = .plain)
    (q : ∀ f fc of vs tt ctv doc h' tk, X.Mem h₀ h' chg ((f, fnMade name qual params body scope clos doc ((mg "__name__").getD .none) fc ctv) :: (fc, of) :: news.set i (P, X.tableObj (ps ++ #[rawInt pos.line, rawInt pos.col, .ref fc]))) →
      of.data = .fields vs → vs[1]? = some (.str qual tt) → Q (.ref f) ⟨h', g, d, tk, os⟩) :
    wpAny M A (makeFunction name qual params (.stmts body) scope env [] [] [] pos firstLine) Q E ⟨h, g, d, t, os⟩ := by
  have hP := D.at i P _ hi
  have hP0 : h₀.get? P = none := (D.nw _ (List.mem_of_getElem? hi)).2
  have kp : ∀ b o, h₀.get? b = some o → X.away chg b = true → h.get? b = some o := fun b o e q => D.keep b o e (by rw [q, Bool.or_true])
  have hgs : h.Ns mainGlobals mg := by
    obtain ⟨o, es, ep, e, r⟩ := hg
    exact ⟨o, es, ep, kp _ _ e hgk, r⟩
  have hgP : mainGlobals ≠ P := fun q => by
    obtain ⟨o, es, ep, e, _⟩ := hg
    rw [q, hP0] at e; cases e
  have hbP : h.BuiltinsAt mg P := by
    obtain ⟨bm, ob, b1, b2, b3, b4, b5, b6⟩ := hb
    exact ⟨bm, ob, b1, b2, b3, (fun q => by rw [q, hP0] at b4; cases b4), D.keep _ _ b4 (by unfold X.hasCls; rw [b5]; rfl), b5, b6⟩
  refine makeFunction_K (mg := mg) hcl hge hgs hcode (H.hd (m_get D hc)) hP ht hnf hgP hbP fun fc ctv doc h' tk hx hge hlt hrec htb => ?_
  obtain ⟨c₂, of, vs, tt, e2, hoc, hd, hv⟩ := hrec
  cases e2
  have lt : ∀ p ∈ news, p.1 < h.objs.size := fun p hp => Heap.lt_size (D.nw p hp).1
  have D1 : X.Mem h₀ h' chg (news.set i (P, X.tableObj (ps ++ #[rawInt pos.line, rawInt pos.col, .ref fc]))) := by
    refine Mem_keeps (D.update (f := fun _ => X.tableObj (ps ++ #[rawInt pos.line, rawInt pos.col, .ref fc])) hi rfl) fun b o e => ?_
    by_cases hbP : b = P
    · subst hbP
      rw [Heap.get?_update_self (h := h) (fun _ => X.tableObj (ps ++ #[rawInt pos.line, rawInt pos.col, .ref fc])) hP rfl] at e
      cases e
      exact htb
    · exact hx b o hbP (by rw [← (Heap.SameBut.update ..).2 b hbP]; exact e)
  have lt1 : ∀ p ∈ news.set i (P, X.tableObj (ps ++ #[rawInt pos.line, rawInt pos.col, .ref fc])), p.1 < h.objs.size := fun p hp => by
    rcases List.mem_or_eq_of_mem_set hp with hp | rfl
    · exact lt p hp
    · exact Heap.lt_size hP
  have none_ : ∀ {a : Addr}, h.objs.size ≤ a → h₀.get? a = none := fun hge => Mem_none D (Heap.get?_none_of_le hge)
  have D2 : X.Mem h₀ h' chg ((fc, of) :: news.set i (P, X.tableObj (ps ++ #[rawInt pos.line, rawInt pos.col, .ref fc]))) := Mem_add D1 hoc (none_ hge) fun p hp => Nat.lt_of_lt_of_le (lt1 p hp) hge
  exact q h'.objs.size fc of vs tt ctv doc _ tk (D2.alloc rfl) hd hv
theorem m_localSet {env : Env} {name : Str} {v : Value} {Q : Unit → Shared → Prop} {N : Addr} {od : Option Addr} {es : Array DictEntry} {n : Nat} {sl : Array (Option Value)} (o' : Int → Obj) (D : X.Mem h₀ h chg news) (hN : env.locals = N) (i : Nat) (hi : news[i]? = some (N, ⟨.type "dict", od, .dict es n, sl⟩))
    (hr : aRefKeyMayBeTheName name es = false) (e : ∀ hsh, Obj.putName name hsh (.str name t) v ⟨.type "dict", od, .dict es n, sl⟩ = o' hsh) (hf : ∀ hsh, (o' hsh).isFreed = false)
    (q : ∀ hsh h', X.Mem h₀ h' chg (news.set i (N, o' hsh)) → Q () ⟨h', g, d, t + 1, os⟩) :
    wpAny M A (localSet env name v) Q E ⟨h, g, d, t, os⟩ := by
  subst hN
  unfold localSet
  refine wpAny_bind (wpAny_load (D.at i _ _ hi) ?_)
  rw [if_pos (by simp)]
  exact m_nsSet o' D i hi hr e hf q
end
end Mine.C2
end
section
open PySem PySem.Spec PySem.Calls PySem.W PyProof.Rows PySem.Builtin
set_option maxHeartbeats 0
namespace Mine.C2
theorem look_tga : typeLookup (.type "type") "__getattribute__" = pure (some (.builtin "type.__getattribute__")) := by rw [typeLookup_type, builtinLookup_eq_fast]; kernel_rfl
theorem look_dgi : typeLookup (.type "dict") "__getitem__" = pure (some (.builtin "dict.__getitem__")) := by rw [typeLookup_type, builtinLookup_eq_fast]; kernel_rfl
noncomputable abbrev cenvOf (scope : Scope) (clos : List (Str × Addr)) (N c F : Addr) : Env := { scope := scope, locals := N, globals := mainGlobals, cells := clos, qual := "cmp_to_key.<locals>.K" ++ ".", code := .ref c, frame := some F, builtins := builtinsNs }
noncomputable abbrev qualOf (name : Str) : Str := "cmp_to_key.<locals>.K" ++ "." ++ name
structure Fn where
  prm : Arguments
  body : List Stmt
  sc : Scope
  pos : Pos
  clos : List (Str × Addr)
structure Mt (qual : Str) where
  f : Addr
  fc : Addr
  of : Obj
  doc : Value
  ctv : Value
  vs : Array Value
  tt : Tok
  hd : of.data = .fields vs
  hv : vs[1]? = some (.str qual tt)
noncomputable abbrev Mt.fn {name : Str} (m : Mt (qualOf name)) (k : Fn) (vn : Value) : Obj := fnMade name (qualOf name) k.prm k.body k.sc k.clos m.doc vn m.fc m.ctv
noncomputable def ent11 (hs : Nat → Int) (tk : Nat → Nat) (x9 x16 x24 x32 x40 x48 x56 : Addr) : Array DictEntry := #[
 ⟨hs 0, .str "__module__" (tk 0), .str "cpy313.functools" (tk 1)⟩, ⟨hs 1, .str "__qualname__" (tk 2), .str "cmp_to_key.<locals>.K" (tk 3)⟩,
 ⟨hs 2, .str "__firstlineno__" (tk 4), .int 14 (tk 5)⟩, ⟨hs 3, .str "__slots__" (tk 6), .ref x9⟩, ⟨hs 4, .str "__init__" (tk 7), .ref x16⟩,
 ⟨hs 5, .str "__lt__" (tk 8), .ref x24⟩, ⟨hs 6, .str "__gt__" (tk 9), .ref x32⟩, ⟨hs 7, .str "__eq__" (tk 10), .ref x40⟩, ⟨hs 8, .str "__le__" (tk 11), .ref x48⟩,
 ⟨hs 9, .str "__ge__" (tk 12), .ref x56⟩, ⟨hs 10, .str "__hash__" (tk 13), .none⟩]
noncomputable abbrev bodyNews0 (N c' F P' tp : Addr) (oc ot oF : Obj) (z1 z2 z3 : Int) (tk : Nat) (vn : Value) : List (Addr × Obj) := [(F, oF), (c', oc), (P', X.tableObj #[]), (tp, ot),
  (N, ⟨.type "dict", none, .dict #[⟨z1, .str "__module__" tk, vn⟩, ⟨z2, .str "__qualname__" (tk + 1 + 1), .str "cmp_to_key.<locals>.K" (tk + 1)⟩, ⟨z3, .str "__firstlineno__" (tk + 1 + 1 + 1 + 1), .int 14 (tk + 1 + 1 + 1)⟩] 3, #[]⟩)]
noncomputable abbrev bodyNews1 (N c' F P' tp x9 : Addr) (oc ot oF : Obj) (ps : Array Value) (hs : Nat → Int) (ts : Nat → Nat) (t9 : Nat) (vn : Value) (k16 k24 k32 k40 k48 k56 : Fn) (m16 : Mt (qualOf "__init__")) (m24 : Mt (qualOf "__lt__")) (m32 : Mt (qualOf "__gt__")) (m40 : Mt (qualOf "__eq__")) (m48 : Mt (qualOf "__le__")) (m56 : Mt (qualOf "__ge__")) : List (Addr × Obj) := [
  (m56.f, m56.fn k56 vn), (m56.fc, m56.of), (m48.f, m48.fn k48 vn), (m48.fc, m48.of), (m40.f, m40.fn k40 vn), (m40.fc, m40.of), (m32.f, m32.fn k32 vn), (m32.fc, m32.of), (m24.f, m24.fn k24 vn), (m24.fc, m24.of), (m16.f, m16.fn k16 vn), (m16.fc, m16.of), (x9, ⟨.type "list", none, .seq #[.str "obj" t9] 0, #[]⟩), (F, oF), (c', oc), (P', X.tableObj ps), (tp, ot),
  (N, ⟨.type "dict", none, .dict (ent11 hs ts x9 m16.f m24.f m32.f m40.f m48.f m56.f) 11, #[]⟩)]
theorem wpAny_onRaise' {α : Type} {M : Model} {A : Around} {t : Sem α} {k : Value → Sem Unit} {Q : α → Shared → Prop} {E : Value → Shared → Prop} {s : Shared} (h : wpAny M A t Q (fun e s' => wpAny M A (k e) (fun _ s'' => E e s'') E s') s) : wpAny M A (t.onRaise k) Q E s := wpAny_onRaise h
theorem type_type : typeOf (.type "type") = pure (.type "type") := by kernel_rfl
theorem bind_tga (self : Value) : bindSpecial (.builtin "type.__getattribute__") self = pure (.builtin "type.__getattribute__", [self]) := by kernel_rfl
theorem wpAny_up {α : Type} {M : Model} {A : Around} {t : Sem α} {Q : α → Shared → Prop} {E : Value → Shared → Prop} {s : Shared} (hA1 : A.handled = none) (hA2 : A.depth ≤ 640) {envs : List Env} (hA3 : A.frames = some envs) (hA5 : A.units ≤ 9300)
  (h : ∀ gd, wpAny M ⟨none, 700, some envs, gd, 9500⟩ t Q E s) : wpAny M A t Q E s := wpAny_down (h A.guards) hA1 (Nat.le_trans hA2 (by decide)) hA3 rfl (Nat.le_trans hA5 (by decide))
local macro_rules | `(tactic| x_close) => `(tactic| (apply_assumption; rotate_left; assumption; kernel_rfl))
theorem tgaPrep {prog : Program} {w : World} {E : Value → Shared → Prop} {h : Heap} {g : Array GenState} {d : Drawn} {t tk : Nat} {os : OsState} {gd : Option (List Code)} {envs : List Env} 
  {Q : Value → Shared → Prop}
  (q : ∀ b h' id, id = "type.__prepare__" → X.Mem h h' [] [(b, ⟨.type "builtin_function_or_method", none, .fields #[.builtin id, .type "type"], #[]⟩)] → Q (.ref b) ⟨h', g, d, t, os⟩) :
  wpAny (model prog w) ⟨none, 700, some envs, gd, 9500⟩ (call (.builtin "type.__getattribute__") [.type "type", .str "__prepare__" tk]) Q E ⟨h, g, d, t, os⟩ := by
  x_run
theorem prepAttr {prog : Program} {w : World} {A : Around} {E : Value → Shared → Prop} {h : Heap} {g : Array GenState} {d : Drawn} {t : Nat} {os : OsState}
  {Q : Option Value → Shared → Prop} (hA1 : A.handled = none) (hA2 : A.depth ≤ 640) {envs : List Env} (hA3 : A.frames = some envs) (hA5 : A.units ≤ 9300)
  (q : ∀ b h', X.Mem h h' [] [(b, ⟨.type "builtin_function_or_method", none, .fields #[.builtin "type.__prepare__", .type "type"], #[]⟩)] → Q (some (.ref b)) ⟨h', g, d, t + 1, os⟩) :
  wpAny (model prog w) A (getAttr? (.type "type") "__prepare__") Q E ⟨h, g, d, t, os⟩ := by
  (repeat (first | exists "type_obj type_type look_tga bind_tga", by with_reducible refine wpAny_of_eq (x ..) ?_ | exists "PySem.call", by (with_reducible show wpAny _ _ (@x ..) _ _ _); refine Halt.out ?_ | exists "wpAny_bind wpAny_pure wpAny_holding wpAny_standAt wpAny_point wpAny_rule wpAny_mkText wpAny_attempt", by with_reducible refine x ?_ | ((with_reducible show wpAny _ _ (ite _ _ _) _ _ _); first | refine wpAny_ite_false (by rfl) ?_ | refine wpAny_ite_true (by rfl) ?_) | wp_delta))
  refine Halt.go (wpAny_up hA1 hA2 hA3 hA5 fun gd => tgaPrep fun b h' id e D => ?_)
  subst e
  (repeat (first | exists "type_obj type_type look_tga bind_tga", by with_reducible refine wpAny_of_eq (x ..) ?_ | exists "PySem.call", by (with_reducible show wpAny _ _ (@x ..) _ _ _); refine Halt.out ?_ | exists "wpAny_bind wpAny_pure wpAny_holding wpAny_standAt wpAny_point wpAny_rule wpAny_mkText wpAny_attempt", by with_reducible refine x ?_ | ((with_reducible show wpAny _ _ (ite _ _ _) _ _ _); first | refine wpAny_ite_false (by rfl) ?_ | refine wpAny_ite_true (by rfl) ?_) | wp_delta))
  exact q b h' D
end Mine.C2
end
section
open PySem PySem.Spec PySem.Calls PySem.W PyProof.Rows PySem.Builtin
set_option maxHeartbeats 0
namespace Mine.C2
theorem entry_prep : entryFor table "type.__prepare__" = some Builtin.«type.__prepare__» := entryFor_of_tree (by kernel_rfl)
theorem plain_prep : plainId "type.__prepare__" = true := by decide +kernel
theorem bound_prep (tk : Tok) (B : Addr) : checkBoundCall "type.__prepare__" ⟨[.type "type", .str "K" tk, .ref B], []⟩ = pure () := by kernel_rfl
theorem prepCall2 {prog : Program} {w : World} {A : Around} {E : Value → Shared → Prop} {h : Heap} {g : Array GenState} {d : Drawn} {t tk : Nat} {os : OsState} {b B : Addr}
  {Q : Value → Shared → Prop} (hb : h.get? b = some ⟨.type "builtin_function_or_method", none, .fields #[.builtin "type.__prepare__", .type "type"], #[]⟩)
  (q : ∀ h', X.Mem h h' [] [(h.objs.size, ⟨.type "dict", none, .dict #[] 0, #[]⟩)] → Q (.ref h.objs.size) ⟨h', g, d, t, os⟩) :
  wpAny (model prog w) A (call (.ref b) [.str "K" tk, .ref B]) Q E ⟨h, g, d, t, os⟩ := by
  refine wpAny_call (codeAny_of_tree ?_)
  show wpAny _ A.in1 (callAny (.ref b) ⟨[.str "K" tk, .ref B], []⟩) _ _ _
  unfold callAny
  refine wpAny_bind (wpAny_load hb ?_)
  dsimp only
  refine wpAny_ite_true (by kernel_rfl) ?_
  refine wpAny_ite_true (by kernel_rfl) ?_
  refine wpAny_bind (wpAny_of_eq (bound_prep _ _) ?_)
  refine wpAny_bind (wpAny_pure (wpAny_pure ⟨plainId_quiet plain_prep _, codeAny_builtin entry_prep ?_⟩))
  rw [Around.under_plainId plain_prep _]
  unfold Builtin.«type.__prepare__»
  refine wpAny_bind ?_
  unfold newDict
  refine wpAny_newObj_type ?_ (by size_fits)
  exact wpAny_pure (q _ ((X.Mem.start h).alloc rfl))
end Mine.C2
end
section
open PySem PySem.Spec PySem.Calls PySem.W PyProof.Rows PySem.Builtin
set_option maxHeartbeats 0
namespace Mine.C2
noncomputable def lnOf (env : Env) : Sem Value := do
  if let some v ← localGet env "__name__" then return v
  loadGlobal env "__name__"
theorem away_one {P b : Addr} {x : Obj} (q : b ≠ P) : X.away [(P, x)] b = true := by
  unfold X.away
  cases e : Nat.beq P b with
  | false => simp [e]
  | true => exact absurd (Nat.eq_of_beq_eq_true e).symm q
theorem buildClass_K {prog : Program} {w : World} {A : Around} {E : Value → Shared → Prop} {h₀ : Heap} {g : Array GenState} {d : Drawn} {t : Nat} {os : OsState} {Q : Value → Shared → Prop}
   {env : Env} {c0 P0 : Addr} {scope : Scope} {pos : Pos} {mg : Str → Option Value} {body : List Stmt} (k16 k24 k32 k40 k48 k56 : Fn)
   (hA1 : A.handled = none) (hA2 : A.depth ≤ 600) {envs : List Env} (hA3 : A.frames = some envs) (hA5 : A.units ≤ 9000)
   (hc : env.code = .ref c0) (C : CodeHd h₀ c0 P0) (hP : h₀.get? P0 = some (X.tableObj #[])) (hge : env.globals = mainGlobals) (hbu : env.builtins = builtinsNs)
   (hcl1 : (scope.names.lookup ("__class__" : Str) == some NameKind.cell) = false) (hcl2 : (scope.names.lookup ("__classdict__" : Str) == some NameKind.cell) = false)
   (hg : h₀.Ns mainGlobals mg) (hb : ∃ bm o, mg "__builtins__" = some (.ref bm) ∧ bm ≠ builtinsNs ∧ bm ≠ mainGlobals ∧ h₀.get? bm = some o ∧ o.cls = .type "module" ∧ o.dict = some builtinsNs ∧ o.data = .plain)
   {vn : Value} (hvn : mg "__name__" = some vn) {clos : List (Str × Addr)} (hcf : closureFor scope env = pure clos) (hsk : scope.kind = .class) (hnl : h₀.NoLimit) (hgP : mainGlobals ≠ P0) (hcP : cStatics ≠ P0)
   (hst : ∀ N c F x, x ∈ (["__module__", "__qualname__", "__firstlineno__", "__static_attributes__"] : List Str) → ∀ v, storeName (cenvOf scope clos N c F) x v = localSet (cenvOf scope clos N c F) x v)
   {ost : Obj} (hcs : h₀.get? cStatics = some ost) (hcs2 : nsLook "thirdparty.any" ost = pure none)
   (q : ∀ (K ns md : Addr) (tK tm : Nat) (hs : Nat → Int) (tk : Nat → Nat) (B x9 x57 : Addr) (ho hd : Int) (m16 : Mt (qualOf "__init__")) (m24 : Mt (qualOf "__lt__")) (m32 : Mt (qualOf "__gt__")) (m40 : Mt (qualOf "__eq__")) (m48 : Mt (qualOf "__le__")) (m56 : Mt (qualOf "__ge__")) (h' : Heap) (t' : Nat),
      (∀ b o, h₀.get? b = some o → b ≠ P0 → h'.get? b = some o) → (∃ ps, h'.get? P0 = some (X.tableObj ps)) →
      (∀ p ∈ endK B ns K md tK tm hs tk x9 m16.f m24.f m32.f m40.f m48.f m56.f x57 ho hd ++ [(m16.f, m16.fn k16 vn), (m16.fc, m16.of), (m24.f, m24.fn k24 vn), (m24.fc, m24.of)], h'.get? p.1 = some p.2 ∧ h₀.get? p.1 = none) →
      Q (.ref K) ⟨h', g, d, t', os⟩)
   (hln : ∀ N c F, loadName (cenvOf scope clos N c F) "__name__" = lnOf (cenvOf scope clos N c F))
   (hrun : ∀ (h1 h' : Heap) (N c' F P' tp : Addr) (oc ot oF : Obj) (x : Obj) (z1 z2 z3 : Int) (tk : Nat) (Q' : Flow → Shared → Prop), (∀ b o, h₀.get? b = some o → h1.get? b = some o) → X.Mem h1 h' [(P0, x)] (bodyNews0 N c' F P' tp oc ot oF z1 z2 z3 tk vn) → HdO oc c' P' →
     (∀ h'' tk'' x9 ps t9 (hs : Nat → Int) (ts : Nat → Nat) m16 m24 m32 m40 m48 m56, X.Mem h1 h'' [(P0, x)] (bodyNews1 N c' F P' tp x9 oc ot oF ps hs ts t9 vn k16 k24 k32 k40 k48 k56 m16 m24 m32 m40 m48 m56) → Q' .next ⟨h'', g, d, tk'', os⟩) →
     wpAny (model prog w) A (run (.body body (cenvOf scope clos N c' F))) Q' E ⟨h', g, d, tk + 1 + 1 + 1 + 1 + 1, os⟩) :
   wpAny (model prog w) A (buildClass "K" "cmp_to_key.<locals>.K" [.type "object"] [] body scope ["obj"] 14 env pos none) Q E ⟨h₀, g, d, t, os⟩ := by
  have D := X.Mem.start h₀
  unfold buildClass
  (repeat (first | exists "sub_tuple sub_dict sub_type type_obj look_dgi", by with_reducible refine wpAny_of_eq (x ..) ?_ | exists "PySem.call getAttr? classCode storeName nsGet loadName enterFrame closureFor builtinsFor newBodyFrame PySem.run", by (with_reducible show wpAny _ _ (@x ..) _ _ _); refine Halt.out ?_ | ((with_reducible show codeAny _ _ _ _ _); refine Halt.out ?_) | exists "wpAny_bind wpAny_pure wpAny_holding wpAny_standAt wpAny_point wpAny_rule wpAny_mkText wpAny_mkInt wpAny_onRaise'", by with_reducible refine x ?_ | exists "wpAny_loadPart wpAny_load", by with_reducible refine x (m_get (by assumption) (by (repeat (first | exact List.mem_cons_self | apply List.mem_cons_of_mem)))) ?_ | (with_reducible refine m_alloc (by assumption) rfl ?_; intro _ _ _) | ((with_reducible show wpAny _ _ (ite _ _ _) _ _ _); first | refine wpAny_ite_false (by rfl) ?_ | refine wpAny_ite_true (by rfl) ?_) | wp_delta))
  rename_i B h01 D01
  refine Halt.go (prepAttr hA1 (Nat.le_trans hA2 (by decide)) hA3 (Nat.le_trans hA5 (by decide)) fun b h1 D1 => ?_)
  (repeat (first | exists "sub_tuple sub_dict sub_type type_obj look_dgi", by with_reducible refine wpAny_of_eq (x ..) ?_ | exists "PySem.call getAttr? classCode storeName nsGet loadName enterFrame closureFor builtinsFor newBodyFrame PySem.run", by (with_reducible show wpAny _ _ (@x ..) _ _ _); refine Halt.out ?_ | ((with_reducible show codeAny _ _ _ _ _); refine Halt.out ?_) | exists "wpAny_bind wpAny_pure wpAny_holding wpAny_standAt wpAny_point wpAny_rule wpAny_mkText wpAny_mkInt wpAny_onRaise'", by with_reducible refine x ?_ | exists "wpAny_loadPart wpAny_load", by with_reducible refine x (m_get (by assumption) (by (repeat (first | exact List.mem_cons_self | apply List.mem_cons_of_mem)))) ?_ | (with_reducible refine m_alloc (by assumption) rfl ?_; intro _ _ _) | ((with_reducible show wpAny _ _ (ite _ _ _) _ _ _); first | refine wpAny_ite_false (by rfl) ?_ | refine wpAny_ite_true (by rfl) ?_) | wp_delta))
  refine Halt.go (prepCall2 (m_get D1 (by (repeat (first | exact List.mem_cons_self | apply List.mem_cons_of_mem)))) fun h2 D2 => ?_)
  have k1 : ∀ b o, h₀.get? b = some o → h1.get? b = some o := fun b o e => D1.keep b o (D01.keep b o e (by simp [X.away])) (by simp [X.away])
  have hNs : (h1.objs.size == sysModules) = false := beq_eq_false_iff_ne.mpr (Nat.ne_of_gt (modules_low (hnl.keeps k1)))
  generalize h1.objs.size = N at D2 hNs ⊢
  (repeat (first | exists "sub_tuple sub_dict sub_type type_obj look_dgi", by with_reducible refine wpAny_of_eq (x ..) ?_ | exists "PySem.call getAttr? classCode storeName nsGet loadName enterFrame closureFor builtinsFor newBodyFrame PySem.run", by (with_reducible show wpAny _ _ (@x ..) _ _ _); refine Halt.out ?_ | ((with_reducible show codeAny _ _ _ _ _); refine Halt.out ?_) | exists "wpAny_bind wpAny_pure wpAny_holding wpAny_standAt wpAny_point wpAny_rule wpAny_mkText wpAny_mkInt wpAny_onRaise'", by with_reducible refine x ?_ | exists "wpAny_loadPart wpAny_load", by with_reducible refine x (m_get (by assumption) (by (repeat (first | exact List.mem_cons_self | apply List.mem_cons_of_mem)))) ?_ | (with_reducible refine m_alloc (by assumption) rfl ?_; intro _ _ _) | ((with_reducible show wpAny _ _ (ite _ _ _) _ _ _); first | refine wpAny_ite_false (by rfl) ?_ | refine wpAny_ite_true (by rfl) ?_) | wp_delta))
  refine wpAny_ite_false (by simp [hNs]) ?_
  (repeat (first | exists "sub_tuple sub_dict sub_type type_obj look_dgi", by with_reducible refine wpAny_of_eq (x ..) ?_ | exists "PySem.call getAttr? classCode storeName nsGet loadName enterFrame closureFor builtinsFor newBodyFrame PySem.run", by (with_reducible show wpAny _ _ (@x ..) _ _ _); refine Halt.out ?_ | ((with_reducible show codeAny _ _ _ _ _); refine Halt.out ?_) | exists "wpAny_bind wpAny_pure wpAny_holding wpAny_standAt wpAny_point wpAny_rule wpAny_mkText wpAny_mkInt wpAny_onRaise'", by with_reducible refine x ?_ | exists "wpAny_loadPart wpAny_load", by with_reducible refine x (m_get (by assumption) (by (repeat (first | exact List.mem_cons_self | apply List.mem_cons_of_mem)))) ?_ | (with_reducible refine m_alloc (by assumption) rfl ?_; intro _ _ _) | ((with_reducible show wpAny _ _ (ite _ _ _) _ _ _); first | refine wpAny_ite_false (by rfl) ?_ | refine wpAny_ite_true (by rfl) ?_) | wp_delta))
  refine wpAny_ite_false (by simp [hcl1]) ?_
  (repeat (first | exists "sub_tuple sub_dict sub_type type_obj look_dgi", by with_reducible refine wpAny_of_eq (x ..) ?_ | exists "PySem.call getAttr? classCode storeName nsGet loadName enterFrame closureFor builtinsFor newBodyFrame PySem.run", by (with_reducible show wpAny _ _ (@x ..) _ _ _); refine Halt.out ?_ | ((with_reducible show codeAny _ _ _ _ _); refine Halt.out ?_) | exists "wpAny_bind wpAny_pure wpAny_holding wpAny_standAt wpAny_point wpAny_rule wpAny_mkText wpAny_mkInt wpAny_onRaise'", by with_reducible refine x ?_ | exists "wpAny_loadPart wpAny_load", by with_reducible refine x (m_get (by assumption) (by (repeat (first | exact List.mem_cons_self | apply List.mem_cons_of_mem)))) ?_ | (with_reducible refine m_alloc (by assumption) rfl ?_; intro _ _ _) | ((with_reducible show wpAny _ _ (ite _ _ _) _ _ _); first | refine wpAny_ite_false (by rfl) ?_ | refine wpAny_ite_true (by rfl) ?_) | wp_delta))
  refine wpAny_ite_false (by simp [hcl2]) ?_
  (repeat (first | exists "sub_tuple sub_dict sub_type type_obj look_dgi", by with_reducible refine wpAny_of_eq (x ..) ?_ | exists "PySem.call getAttr? classCode storeName nsGet loadName enterFrame closureFor builtinsFor newBodyFrame PySem.run", by (with_reducible show wpAny _ _ (@x ..) _ _ _); refine Halt.out ?_ | ((with_reducible show codeAny _ _ _ _ _); refine Halt.out ?_) | exists "wpAny_bind wpAny_pure wpAny_holding wpAny_standAt wpAny_point wpAny_rule wpAny_mkText wpAny_mkInt wpAny_onRaise'", by with_reducible refine x ?_ | exists "wpAny_loadPart wpAny_load", by with_reducible refine x (m_get (by assumption) (by (repeat (first | exact List.mem_cons_self | apply List.mem_cons_of_mem)))) ?_ | (with_reducible refine m_alloc (by assumption) rfl ?_; intro _ _ _) | ((with_reducible show wpAny _ _ (ite _ _ _) _ _ _); first | refine wpAny_ite_false (by rfl) ?_ | refine wpAny_ite_true (by rfl) ?_) | wp_delta))
  refine Halt.go (m_classCode D2 hc (C.keeps k1) (k1 _ _ hP) fun c' P' tp oc ot h3 tk D3 H => ?_)
  have k3 : ∀ b o, h₀.get? b = some o → b ≠ P0 → h3.get? b = some o := fun b o e q => D3.keep b o (k1 _ _ e) (by rw [away_one q, Bool.or_true])
  have ns3 : ∀ {a m}, h₀.Ns a m → a ≠ P0 → h3.Ns a m := fun {a m} x q => let ⟨o, es, ep, e, r⟩ := x; ⟨o, es, ep, k3 _ _ e q, r⟩
  have hg3 := ns3 hg hgP
  (repeat (first | exists "sub_tuple sub_dict sub_type type_obj look_dgi", by with_reducible refine wpAny_of_eq (x ..) ?_ | exists "PySem.call getAttr? classCode storeName nsGet loadName enterFrame closureFor builtinsFor newBodyFrame PySem.run", by (with_reducible show wpAny _ _ (@x ..) _ _ _); refine Halt.out ?_ | ((with_reducible show codeAny _ _ _ _ _); refine Halt.out ?_) | exists "wpAny_bind wpAny_pure wpAny_holding wpAny_standAt wpAny_point wpAny_rule wpAny_mkText wpAny_mkInt wpAny_onRaise'", by with_reducible refine x ?_ | exists "wpAny_loadPart wpAny_load", by with_reducible refine x (m_get (by assumption) (by (repeat (first | exact List.mem_cons_self | apply List.mem_cons_of_mem)))) ?_ | (with_reducible refine m_alloc (by assumption) rfl ?_; intro _ _ _) | ((with_reducible show wpAny _ _ (ite _ _ _) _ _ _); first | refine wpAny_ite_false (by rfl) ?_ | refine wpAny_ite_true (by rfl) ?_) | wp_delta))
  obtain ⟨bm, ob, b1, b2, b3, b4, b5, b6, b7⟩ := id hb
  have hbm3 : h3.get? bm = some ob := D3.keep _ _ (k1 _ _ b4) (by unfold X.hasCls; rw [b5]; rfl)
  rw [hge]
  refine Halt.go (wpAny_builtinsFor hg3 b1 b2 hbm3 b5 b6 b7 ?_)
  (repeat (first | exists "sub_tuple sub_dict sub_type type_obj look_dgi", by with_reducible refine wpAny_of_eq (x ..) ?_ | exists "PySem.call getAttr? classCode storeName nsGet loadName enterFrame closureFor builtinsFor newBodyFrame PySem.run", by (with_reducible show wpAny _ _ (@x ..) _ _ _); refine Halt.out ?_ | ((with_reducible show codeAny _ _ _ _ _); refine Halt.out ?_) | exists "wpAny_bind wpAny_pure wpAny_holding wpAny_standAt wpAny_point wpAny_rule wpAny_mkText wpAny_mkInt wpAny_onRaise'", by with_reducible refine x ?_ | exists "wpAny_loadPart wpAny_load", by with_reducible refine x (m_get (by assumption) (by (repeat (first | exact List.mem_cons_self | apply List.mem_cons_of_mem)))) ?_ | (with_reducible refine m_alloc (by assumption) rfl ?_; intro _ _ _) | ((with_reducible show wpAny _ _ (ite _ _ _) _ _ _); first | refine wpAny_ite_false (by rfl) ?_ | refine wpAny_ite_true (by rfl) ?_) | wp_delta))
  unfold newBodyFrame
  refine Halt.go ?_
  (repeat (first | exists "sub_tuple sub_dict sub_type type_obj look_dgi", by with_reducible refine wpAny_of_eq (x ..) ?_ | exists "PySem.call getAttr? classCode storeName nsGet loadName enterFrame closureFor builtinsFor newBodyFrame PySem.run", by (with_reducible show wpAny _ _ (@x ..) _ _ _); refine Halt.out ?_ | ((with_reducible show codeAny _ _ _ _ _); refine Halt.out ?_) | exists "wpAny_bind wpAny_pure wpAny_holding wpAny_standAt wpAny_point wpAny_rule wpAny_mkText wpAny_mkInt wpAny_onRaise'", by with_reducible refine x ?_ | exists "wpAny_loadPart wpAny_load", by with_reducible refine x (m_get (by assumption) (by (repeat (first | exact List.mem_cons_self | apply List.mem_cons_of_mem)))) ?_ | (with_reducible refine m_alloc (by assumption) rfl ?_; intro _ _ _) | ((with_reducible show wpAny _ _ (ite _ _ _) _ _ _); first | refine wpAny_ite_false (by rfl) ?_ | refine wpAny_ite_true (by rfl) ?_) | wp_delta))
  refine Halt.go (wpAny_nsGet hg3 ?_)
  rw [hvn]
  (repeat (first | exists "sub_tuple sub_dict sub_type type_obj look_dgi", by with_reducible refine wpAny_of_eq (x ..) ?_ | exists "PySem.call getAttr? classCode storeName nsGet loadName enterFrame closureFor builtinsFor newBodyFrame PySem.run", by (with_reducible show wpAny _ _ (@x ..) _ _ _); refine Halt.out ?_ | ((with_reducible show codeAny _ _ _ _ _); refine Halt.out ?_) | exists "wpAny_bind wpAny_pure wpAny_holding wpAny_standAt wpAny_point wpAny_rule wpAny_mkText wpAny_mkInt wpAny_onRaise'", by with_reducible refine x ?_ | exists "wpAny_loadPart wpAny_load", by with_reducible refine x (m_get (by assumption) (by (repeat (first | exact List.mem_cons_self | apply List.mem_cons_of_mem)))) ?_ | (with_reducible refine m_alloc (by assumption) rfl ?_; intro _ _ _) | ((with_reducible show wpAny _ _ (ite _ _ _) _ _ _); first | refine wpAny_ite_false (by rfl) ?_ | refine wpAny_ite_true (by rfl) ?_) | wp_delta))
  rename_i F h4 D4
  refine Halt.go (wpAny_of_eq hcf ?_)
  (repeat (first | exists "sub_tuple sub_dict sub_type type_obj look_dgi", by with_reducible refine wpAny_of_eq (x ..) ?_ | exists "PySem.call getAttr? classCode storeName nsGet loadName enterFrame closureFor builtinsFor newBodyFrame PySem.run", by (with_reducible show wpAny _ _ (@x ..) _ _ _); refine Halt.out ?_ | ((with_reducible show codeAny _ _ _ _ _); refine Halt.out ?_) | exists "wpAny_bind wpAny_pure wpAny_holding wpAny_standAt wpAny_point wpAny_rule wpAny_mkText wpAny_mkInt wpAny_onRaise'", by with_reducible refine x ?_ | exists "wpAny_loadPart wpAny_load", by with_reducible refine x (m_get (by assumption) (by (repeat (first | exact List.mem_cons_self | apply List.mem_cons_of_mem)))) ?_ | (with_reducible refine m_alloc (by assumption) rfl ?_; intro _ _ _) | ((with_reducible show wpAny _ _ (ite _ _ _) _ _ _); first | refine wpAny_ite_false (by rfl) ?_ | refine wpAny_ite_true (by rfl) ?_) | wp_delta))
  have gK : ∀ {h' x n}, X.Mem h1 h' [(P0, x)] n → h'.Ns mainGlobals mg := fun {h' x n} D => let ⟨o, es, ep, e, r⟩ := hg; ⟨o, es, ep, D.keep _ _ (k1 _ _ e) (by rw [away_one hgP, Bool.or_true]), r⟩
  have lK : ∀ {h' x n}, X.Mem h1 h' [(P0, x)] n → h'.NoLimit := fun {h' x n} D => let ⟨mc, ⟨o, es, ep, e, r⟩, z⟩ := hnl; ⟨mc, ⟨o, es, ep, D.keep _ _ (k1 _ _ e) (by rw [away_one hcP, Bool.or_true]), r⟩, z⟩
  refine Halt.go (wpAny_enterFrame (lK D4) (Nat.lt_of_le_of_lt hA2 (by decide)) ?_)
  (repeat (first | exists "sub_tuple sub_dict sub_type type_obj look_dgi", by with_reducible refine wpAny_of_eq (x ..) ?_ | exists "PySem.call getAttr? classCode storeName nsGet loadName enterFrame closureFor builtinsFor newBodyFrame PySem.run", by (with_reducible show wpAny _ _ (@x ..) _ _ _); refine Halt.out ?_ | ((with_reducible show codeAny _ _ _ _ _); refine Halt.out ?_) | exists "wpAny_bind wpAny_pure wpAny_holding wpAny_standAt wpAny_point wpAny_rule wpAny_mkText wpAny_mkInt wpAny_onRaise'", by with_reducible refine x ?_ | exists "wpAny_loadPart wpAny_load", by with_reducible refine x (m_get (by assumption) (by (repeat (first | exact List.mem_cons_self | apply List.mem_cons_of_mem)))) ?_ | (with_reducible refine m_alloc (by assumption) rfl ?_; intro _ _ _) | ((with_reducible show wpAny _ _ (ite _ _ _) _ _ _); first | refine wpAny_ite_false (by rfl) ?_ | refine wpAny_ite_true (by rfl) ?_) | wp_delta))
  refine Halt.go ?_
  show wpAny _ _ (loadName (cenvOf scope clos N c' F) "__name__") _ _ _
  rw [hln N c' F]
  unfold lnOf localGet loadGlobal
  (repeat (first | exists "sub_tuple sub_dict sub_type type_obj look_dgi", by with_reducible refine wpAny_of_eq (x ..) ?_ | exists "PySem.call getAttr? classCode storeName nsGet loadName enterFrame closureFor builtinsFor newBodyFrame PySem.run", by (with_reducible show wpAny _ _ (@x ..) _ _ _); refine Halt.out ?_ | ((with_reducible show codeAny _ _ _ _ _); refine Halt.out ?_) | exists "wpAny_bind wpAny_pure wpAny_holding wpAny_standAt wpAny_point wpAny_rule wpAny_mkText wpAny_mkInt wpAny_onRaise'", by with_reducible refine x ?_ | exists "wpAny_loadPart wpAny_load", by with_reducible refine x (m_get (by assumption) (by (repeat (first | exact List.mem_cons_self | apply List.mem_cons_of_mem)))) ?_ | (with_reducible refine m_alloc (by assumption) rfl ?_; intro _ _ _) | ((with_reducible show wpAny _ _ (ite _ _ _) _ _ _); first | refine wpAny_ite_false (by rfl) ?_ | refine wpAny_ite_true (by rfl) ?_) | wp_delta))
  refine Halt.go (m_nsGet none D4 (by (repeat (first | exact List.mem_cons_self | apply List.mem_cons_of_mem))) (by kernel_rfl) ?_)
  (repeat (first | exists "sub_tuple sub_dict sub_type type_obj look_dgi", by with_reducible refine wpAny_of_eq (x ..) ?_ | exists "PySem.call getAttr? classCode storeName nsGet loadName enterFrame closureFor builtinsFor newBodyFrame PySem.run", by (with_reducible show wpAny _ _ (@x ..) _ _ _); refine Halt.out ?_ | ((with_reducible show codeAny _ _ _ _ _); refine Halt.out ?_) | exists "wpAny_bind wpAny_pure wpAny_holding wpAny_standAt wpAny_point wpAny_rule wpAny_mkText wpAny_mkInt wpAny_onRaise'", by with_reducible refine x ?_ | exists "wpAny_loadPart wpAny_load", by with_reducible refine x (m_get (by assumption) (by (repeat (first | exact List.mem_cons_self | apply List.mem_cons_of_mem)))) ?_ | (with_reducible refine m_alloc (by assumption) rfl ?_; intro _ _ _) | ((with_reducible show wpAny _ _ (ite _ _ _) _ _ _); first | refine wpAny_ite_false (by rfl) ?_ | refine wpAny_ite_true (by rfl) ?_) | wp_delta))
  refine Halt.go (wpAny_nsGet (gK D4) ?_)
  rw [hvn]
  (repeat (first | exists "sub_tuple sub_dict sub_type type_obj look_dgi", by with_reducible refine wpAny_of_eq (x ..) ?_ | exists "PySem.call getAttr? classCode storeName nsGet loadName enterFrame closureFor builtinsFor newBodyFrame PySem.run", by (with_reducible show wpAny _ _ (@x ..) _ _ _); refine Halt.out ?_ | ((with_reducible show codeAny _ _ _ _ _); refine Halt.out ?_) | exists "wpAny_bind wpAny_pure wpAny_holding wpAny_standAt wpAny_point wpAny_rule wpAny_mkText wpAny_mkInt wpAny_onRaise'", by with_reducible refine x ?_ | exists "wpAny_loadPart wpAny_load", by with_reducible refine x (m_get (by assumption) (by (repeat (first | exact List.mem_cons_self | apply List.mem_cons_of_mem)))) ?_ | (with_reducible refine m_alloc (by assumption) rfl ?_; intro _ _ _) | ((with_reducible show wpAny _ _ (ite _ _ _) _ _ _); first | refine wpAny_ite_false (by rfl) ?_ | refine wpAny_ite_true (by rfl) ?_) | wp_delta))
  refine Halt.go ?_
  show wpAny _ _ (storeName (cenvOf scope clos N c' F) "__module__" vn) _ _ _
  rw [hst N c' F _ (by exact .head _) vn]
  refine m_localSet (fun z1 => ⟨.type "dict", none, .dict #[⟨z1, .str "__module__" tk, vn⟩] 1, #[]⟩) D4 rfl 4 rfl (by kernel_rfl) (fun _ => by kernel_rfl) (fun _ => rfl) ?_
  intro z1 h5 D5
  simp only [List.set_cons_zero, List.set_cons_succ] at D5
  (repeat (first | exists "sub_tuple sub_dict sub_type type_obj look_dgi", by with_reducible refine wpAny_of_eq (x ..) ?_ | exists "PySem.call getAttr? classCode storeName nsGet loadName enterFrame closureFor builtinsFor newBodyFrame PySem.run", by (with_reducible show wpAny _ _ (@x ..) _ _ _); refine Halt.out ?_ | ((with_reducible show codeAny _ _ _ _ _); refine Halt.out ?_) | exists "wpAny_bind wpAny_pure wpAny_holding wpAny_standAt wpAny_point wpAny_rule wpAny_mkText wpAny_mkInt wpAny_onRaise'", by with_reducible refine x ?_ | exists "wpAny_loadPart wpAny_load", by with_reducible refine x (m_get (by assumption) (by (repeat (first | exact List.mem_cons_self | apply List.mem_cons_of_mem)))) ?_ | (with_reducible refine m_alloc (by assumption) rfl ?_; intro _ _ _) | ((with_reducible show wpAny _ _ (ite _ _ _) _ _ _); first | refine wpAny_ite_false (by rfl) ?_ | refine wpAny_ite_true (by rfl) ?_) | wp_delta))
  refine Halt.go ?_
  show wpAny _ _ (storeName (cenvOf scope clos N c' F) "__qualname__" (.str "cmp_to_key.<locals>.K" (tk + 1))) _ _ _
  rw [hst N c' F _ (by exact .tail _ (.head _)) (.str "cmp_to_key.<locals>.K" (tk + 1))]
  refine m_localSet (fun z2 => ⟨.type "dict", none, .dict #[⟨z1, .str "__module__" tk, vn⟩, ⟨z2, .str "__qualname__" (tk + 1 + 1), .str "cmp_to_key.<locals>.K" (tk + 1)⟩] 2, #[]⟩) D5 rfl 4 rfl (by kernel_rfl) (fun _ => by kernel_rfl) (fun _ => rfl) ?_
  intro z2 h6 D6
  simp only [List.set_cons_zero, List.set_cons_succ] at D6
  (repeat (first | exists "sub_tuple sub_dict sub_type type_obj look_dgi", by with_reducible refine wpAny_of_eq (x ..) ?_ | exists "PySem.call getAttr? classCode storeName nsGet loadName enterFrame closureFor builtinsFor newBodyFrame PySem.run", by (with_reducible show wpAny _ _ (@x ..) _ _ _); refine Halt.out ?_ | ((with_reducible show codeAny _ _ _ _ _); refine Halt.out ?_) | exists "wpAny_bind wpAny_pure wpAny_holding wpAny_standAt wpAny_point wpAny_rule wpAny_mkText wpAny_mkInt wpAny_onRaise'", by with_reducible refine x ?_ | exists "wpAny_loadPart wpAny_load", by with_reducible refine x (m_get (by assumption) (by (repeat (first | exact List.mem_cons_self | apply List.mem_cons_of_mem)))) ?_ | (with_reducible refine m_alloc (by assumption) rfl ?_; intro _ _ _) | ((with_reducible show wpAny _ _ (ite _ _ _) _ _ _); first | refine wpAny_ite_false (by rfl) ?_ | refine wpAny_ite_true (by rfl) ?_) | wp_delta))
  refine Halt.go ?_
  show wpAny _ _ (storeName (cenvOf scope clos N c' F) "__firstlineno__" (.int 14 (tk + 1 + 1 + 1))) _ _ _
  rw [hst N c' F _ (by exact .tail _ (.tail _ (.head _))) (.int 14 (tk + 1 + 1 + 1))]
  refine m_localSet (fun z3 => ⟨.type "dict", none, .dict #[⟨z1, .str "__module__" tk, vn⟩, ⟨z2, .str "__qualname__" (tk + 1 + 1), .str "cmp_to_key.<locals>.K" (tk + 1)⟩, ⟨z3, .str "__firstlineno__" (tk + 1 + 1 + 1 + 1), .int 14 (tk + 1 + 1 + 1)⟩] 3, #[]⟩) D6 rfl 4 rfl (by kernel_rfl) (fun _ => by kernel_rfl) (fun _ => rfl) ?_
  intro z3 h7 D7
  simp only [List.set_cons_zero, List.set_cons_succ] at D7
  (repeat (first | exists "sub_tuple sub_dict sub_type type_obj look_dgi", by with_reducible refine wpAny_of_eq (x ..) ?_ | exists "PySem.call getAttr? classCode storeName nsGet loadName enterFrame closureFor builtinsFor newBodyFrame PySem.run", by (with_reducible show wpAny _ _ (@x ..) _ _ _); refine Halt.out ?_ | ((with_reducible show codeAny _ _ _ _ _); refine Halt.out ?_) | exists "wpAny_bind wpAny_pure wpAny_holding wpAny_standAt wpAny_point wpAny_rule wpAny_mkText wpAny_mkInt wpAny_onRaise'", by with_reducible refine x ?_ | exists "wpAny_loadPart wpAny_load", by with_reducible refine x (m_get (by assumption) (by (repeat (first | exact List.mem_cons_self | apply List.mem_cons_of_mem)))) ?_ | (with_reducible refine m_alloc (by assumption) rfl ?_; intro _ _ _) | ((with_reducible show wpAny _ _ (ite _ _ _) _ _ _); first | refine wpAny_ite_false (by rfl) ?_ | refine wpAny_ite_true (by rfl) ?_) | wp_delta))
  refine Halt.go ?_
  refine hrun h1 h7 N c' F P' tp oc ot _ _ z1 z2 z3 tk _ k1 D7 H fun h8 tk8 x9 ps t9 hs ts m16 m24 m32 m40 m48 m56 D8 => ?_
  (repeat (first | exists "sub_tuple sub_dict sub_type type_obj look_dgi", by with_reducible refine wpAny_of_eq (x ..) ?_ | exists "PySem.call getAttr? classCode storeName nsGet loadName enterFrame closureFor builtinsFor newBodyFrame PySem.run", by (with_reducible show wpAny _ _ (@x ..) _ _ _); refine Halt.out ?_ | ((with_reducible show codeAny _ _ _ _ _); refine Halt.out ?_) | exists "wpAny_bind wpAny_pure wpAny_holding wpAny_standAt wpAny_point wpAny_rule wpAny_mkText wpAny_mkInt wpAny_onRaise'", by with_reducible refine x ?_ | exists "wpAny_loadPart wpAny_load", by with_reducible refine x (m_get (by assumption) (by (repeat (first | exact List.mem_cons_self | apply List.mem_cons_of_mem)))) ?_ | (with_reducible refine m_alloc (by assumption) rfl ?_; intro _ _ _) | ((with_reducible show wpAny _ _ (ite _ _ _) _ _ _); first | refine wpAny_ite_false (by rfl) ?_ | refine wpAny_ite_true (by rfl) ?_) | wp_delta))
  rename_i x57 h9 D9
  refine Halt.go ?_
  show wpAny _ _ (storeName (cenvOf scope clos N c' F) "__static_attributes__" (.ref x57)) _ _ _
  rw [hst N c' F _ (by exact .tail _ (.tail _ (.tail _ (.head _)))) (.ref x57)]
  refine m_localSet (fun z => ⟨.type "dict", none, .dict (ent (fun i => if i = 11 then z else hs i) (fun i => if i = 14 then tk8 + 1 else ts i) x9 m16.f m24.f m32.f m40.f m48.f m56.f x57) 12, #[]⟩) D9 rfl 18 rfl (by kernel_rfl) (fun _ => by kernel_rfl) (fun _ => rfl) ?_
  intro z h10 D10
  simp only [List.set_cons_zero, List.set_cons_succ] at D10
  (repeat (first | exists "sub_tuple sub_dict sub_type type_obj look_dgi", by with_reducible refine wpAny_of_eq (x ..) ?_ | exists "PySem.call getAttr? classCode storeName nsGet loadName enterFrame closureFor builtinsFor newBodyFrame PySem.run", by (with_reducible show wpAny _ _ (@x ..) _ _ _); refine Halt.out ?_ | ((with_reducible show codeAny _ _ _ _ _); refine Halt.out ?_) | exists "wpAny_bind wpAny_pure wpAny_holding wpAny_standAt wpAny_point wpAny_rule wpAny_mkText wpAny_mkInt wpAny_onRaise'", by with_reducible refine x ?_ | exists "wpAny_loadPart wpAny_load", by with_reducible refine x (m_get (by assumption) (by (repeat (first | exact List.mem_cons_self | apply List.mem_cons_of_mem)))) ?_ | (with_reducible refine m_alloc (by assumption) rfl ?_; intro _ _ _) | ((with_reducible show wpAny _ _ (ite _ _ _) _ _ _); first | refine wpAny_ite_false (by rfl) ?_ | refine wpAny_ite_true (by rfl) ?_) | wp_delta))
  have hB : h10.get? B = some ⟨.type "tuple", none, .seq #[.type "object"] 0, #[]⟩ := D10.keep _ _ (D1.keep _ _ (m_get D01 List.mem_cons_self) rfl) rfl
  refine Halt.go (wpAny_down (type_call_K B N t t9 (fun i => if i = 11 then z else hs i) (fun i => if i = 14 then tk8 + 1 else ts i) x9 m16.f m24.f m32.f m40.f m48.f m56.f x57 hB (m_get D10 (by (repeat (first | exact List.mem_cons_self | apply List.mem_cons_of_mem)))) hNs (m_get D10 (by (repeat (first | exact List.mem_cons_self | apply List.mem_cons_of_mem))))
    (D10.keep _ _ (k1 _ _ hcs) (by rw [away_one hcP, Bool.or_true])) hcs2 (m_get D10 (by (repeat (first | exact List.mem_cons_self | apply List.mem_cons_of_mem)))) (m_get D10 (by (repeat (first | exact List.mem_cons_self | apply List.mem_cons_of_mem)))) (m_get D10 (by (repeat (first | exact List.mem_cons_self | apply List.mem_cons_of_mem)))) (m_get D10 (by (repeat (first | exact List.mem_cons_self | apply List.mem_cons_of_mem)))) (m_get D10 (by (repeat (first | exact List.mem_cons_self | apply List.mem_cons_of_mem)))) (m_get D10 (by (repeat (first | exact List.mem_cons_self | apply List.mem_cons_of_mem)))) (m_get D10 (by (repeat (first | exact List.mem_cons_self | apply List.mem_cons_of_mem)))) ?_)
    hA1 (Nat.le_trans hA2 (by decide)) hA3 rfl (Nat.le_trans hA5 (by decide)))
  intro K ns md ho hd h' LD
  (repeat (first | exists "sub_tuple sub_dict sub_type type_obj look_dgi", by with_reducible refine wpAny_of_eq (x ..) ?_ | exists "PySem.call getAttr? classCode storeName nsGet loadName enterFrame closureFor builtinsFor newBodyFrame PySem.run", by (with_reducible show wpAny _ _ (@x ..) _ _ _); refine Halt.out ?_ | ((with_reducible show codeAny _ _ _ _ _); refine Halt.out ?_) | exists "wpAny_bind wpAny_pure wpAny_holding wpAny_standAt wpAny_point wpAny_rule wpAny_mkText wpAny_mkInt wpAny_onRaise'", by with_reducible refine x ?_ | exists "wpAny_loadPart wpAny_load", by with_reducible refine x (m_get (by assumption) (by (repeat (first | exact List.mem_cons_self | apply List.mem_cons_of_mem)))) ?_ | (with_reducible refine m_alloc (by assumption) rfl ?_; intro _ _ _) | ((with_reducible show wpAny _ _ (ite _ _ _) _ _ _); first | refine wpAny_ite_false (by rfl) ?_ | refine wpAny_ite_true (by rfl) ?_) | wp_delta))
  refine q K ns md t (tk8 + 1 + 1) (fun i => if i = 11 then z else hs i) (fun i => if i = 14 then tk8 + 1 else ts i) B x9 x57 ho hd m16 m24 m32 m40 m48 m56 h' _ (fun b o e hb => LD.1 _ _ (D10.keep _ _ (k1 _ _ e) (by rw [away_one hb, Bool.or_true]))) ⟨_, LD.1 _ _ (D10.atC 0 _ _ rfl)⟩ ?_
  intro p hp
  rcases List.mem_append.mp hp with hp | hp
  · exact ⟨(LD.2 p hp).1, Led.none k1 (Mem_none D10 (LD.2 p hp).2)⟩
  · refine (fun hm => (⟨LD.1 _ _ (D10.nw p hm).1, Led.none k1 (D10.nw p hm).2⟩ : h'.get? p.1 = some p.2 ∧ h₀.get? p.1 = none)) ?_
    exact (by (repeat refine sub_c (by (repeat (first | exact List.mem_cons_self | apply List.mem_cons_of_mem))) ?_); exact sub_e : ∀ p ∈ _, p ∈ _) p hp

end Mine.C2
end
section
open PySem PySem.Spec PySem.Calls PySem.W PyProof.Rows PySem.Builtin
set_option maxHeartbeats 0
namespace Mine.C2
noncomputable def TabOk (ps : Array Value) (ls : List Nat) : Prop := TriplesOk ps.toList ∧ ∀ pos : Pos, pos.line ∉ ls → codeAmong pos ps.toList = none
theorem TabOk.nil : TabOk #[] [] := ⟨trivial, fun _ _ => rfl⟩
theorem among_none {pos : Pos} {a b : Nat} {c : Value} (l : List Value) (h : TriplesOk l) (hn : codeAmong pos l = none) (hne : pos.line ≠ a) : codeAmong pos (l ++ [rawInt a, rawInt b, c]) = none := by
  fun_induction TriplesOk l with
  | case1 =>
    have : ((a : Int) == (pos.line : Int)) = false := beq_eq_false_iff_ne.mpr fun q => hne (by omega)
    simp [codeAmong, rawInt, this]
  | case2 a' t b' u x rest ih =>
    simp only [List.cons_append, codeAmong] at hn ⊢
    split at hn
    · cases hn
    · rename_i q
      rw [if_neg q]
      exact ih h hn
  | case3 l h1 h2 => exact h.elim
theorem TabOk.snoc {ps : Array Value} {ls : List Nat} (T : TabOk ps ls) (a b : Nat) (c : Value) : TabOk (ps ++ #[rawInt a, rawInt b, c]) (a :: ls) := by
  refine ⟨?_, fun pos hp => ?_⟩
  · rw [Array.toList_append]; exact TriplesOk_snoc _ _ _ _ T.1
  · rw [Array.toList_append]
    exact among_none _ T.1 (T.2 pos fun q => hp (List.mem_cons_of_mem _ q)) fun q => hp (q ▸ List.mem_cons_self)
theorem m_strList {M : Model} {A : Around} {E : Value → Shared → Prop} {h₀ h : Heap} {chg news : List (Addr × Obj)} {g : Array GenState} {d : Drawn} {t : Nat} {os : OsState} {env : Env} {name : Str} {k : Nat} {p1 p2 : Pos} {Q : Value → Shared → Prop}
    (D : X.Mem h₀ h chg news) (q : ∀ a h', X.Mem h₀ h' chg ((a, ⟨.type "list", none, .seq #[.str name t] 0, #[]⟩) :: news) → Q (.ref a) ⟨h', g, d, t + 1, os⟩) :
    wpAny M A (eval (.List [.Constant (.str name) k p1] p2) env) Q E ⟨h, g, d, t, os⟩ := by
  refine wpAny_List ?_
  repeat (first | with_reducible (first | refine wpAny_bind ?_ | refine wpAny_pure ?_ | refine wpAny_holding ?_ | refine wpAny_standAt ?_ | refine wpAny_Constant_str ?_) | ((with_reducible show wpAny _ _ (ite _ _ _) _ _ _); first | refine wpAny_ite_false (by rfl) ?_ | refine wpAny_ite_true (by rfl) ?_) | wp_delta)
  exact ⟨by show 1 ≤ sizeLine; decide, q _ _ (D.alloc rfl)⟩
theorem nlt {a x : Nat} {l : List Nat} (h : x < a) (t : a ∉ l) : a ∉ x :: l := fun hm => (List.mem_cons.mp hm).elim (Nat.ne_of_gt h) t
theorem m_def {M : Model} {A : Around} {E : Value → Shared → Prop} {h₀ h : Heap} {chg news : List (Addr × Obj)} {g : Array GenState} {d : Drawn} {t : Nat} {os : OsState} {name : Str} {k : Fn} {env : Env} {c P : Addr} {ps : Array Value} {ls : List Nat}
    {mg : Str → Option Value} {oc : Obj} {vn : Value} {Q : Flow → Shared → Prop}
    (D : X.Mem h₀ h chg news) (i : Nat) (hi : news[i]? = some (P, X.tableObj ps)) (hc : (c, oc) ∈ news) (H : HdO oc c P) (T : TabOk ps ls) (hl : k.pos.line ∉ ls)
    (hd0 : k.prm.defaults = []) (hk0 : k.prm.kw_defaults = []) (ha : annTrees k.prm none env = []) (hqn : qualnameIn env name name = qualOf name)
    (hcl : closureFor k.sc env = pure k.clos) (hge : env.globals = mainGlobals) (hcode : env.code = .ref c) (hg : h₀.Ns mainGlobals mg) (hvn : mg "__name__" = some vn) (hgk : X.away chg mainGlobals = true)
    (hb : ∃ bm o, mg "__builtins__" = some (.ref bm) ∧ bm ≠ builtinsNs ∧ bm ≠ mainGlobals ∧ h₀.get? bm = some o ∧ o.cls = .type "module" ∧ o.dict = some builtinsNs ∧ o.data = .plain)
    (q : ∀ (m : Mt (qualOf name)) h' tk, X.Mem h₀ h' chg ((m.f, m.fn k vn) :: (m.fc, m.of) :: news.set i (P, X.tableObj (ps ++ #[rawInt k.pos.line, rawInt k.pos.col, .ref m.fc]))) → wpAny M A (storeName env name (.ref m.f)) (fun _ s => Q .next s) E ⟨h', g, d, tk, os⟩) :
    wpAny M A (exec (.FunctionDef name k.prm k.body [] none [] k.sc none name k.pos) env) Q E ⟨h, g, d, t, os⟩ := by
  refine nestDef_K hd0 hk0 ha ?_
  rw [hqn]
  refine m_makeFunction (mg := mg) D i hi hc H T.1 (T.2 _ hl) hcl hge hcode hg hgk hb fun f fc of vs tt ctv doc h' tk D' hd hv => ?_
  refine q ⟨f, fc, of, doc, ctv, vs, tt, hd, hv⟩ h' tk ?_
  show X.Mem h₀ h' chg ((f, fnMade name (qualOf name) k.prm k.body k.sc k.clos doc vn fc ctv) :: _)
  rw [hvn] at D'
  exact D'
theorem body_K {prog : Program} {w : World} {A : Around} {E : Value → Shared → Prop} {h1 h' : Heap} {g : Array GenState} {d : Drawn} {tk : Nat} {os : OsState} {Q : Flow → Shared → Prop}
   {scope : Scope} {clos : List (Str × Addr)} {mg : Str → Option Value} {u1 u2 u3 u4 u5 u6 u7 u8 u9 u10 : Pos} {v1 v2 v3 : Nat} {k16 k24 k32 k40 k48 k56 : Fn} {P0 : Addr} {x : Obj} {vn : Value}
   {N c' F P' tp : Addr} {oc ot oF : Obj} {z1 z2 z3 : Int}
   (hst : ∀ N c F x, x ∈ (["__module__", "__slots__", "__init__", "__lt__", "__gt__", "__eq__", "__le__", "__ge__", "__hash__"] : List Str) → ∀ v, storeName (cenvOf scope clos N c F) x v = localSet (cenvOf scope clos N c F) x v)
   (hqn : ∀ N c F x, x ∈ (["__init__", "__lt__", "__gt__", "__eq__", "__le__", "__ge__"] : List Str) → qualnameIn (cenvOf scope clos N c F) x x = qualOf x)
   (hd16 : k16.prm.defaults = []) (hk16 : k16.prm.kw_defaults = []) (ha16 : ∀ e, annTrees k16.prm none e = []) (hcl16 : ∀ N c F, closureFor k16.sc (cenvOf scope clos N c F) = pure k16.clos)
   (hd24 : k24.prm.defaults = []) (hk24 : k24.prm.kw_defaults = []) (ha24 : ∀ e, annTrees k24.prm none e = []) (hcl24 : ∀ N c F, closureFor k24.sc (cenvOf scope clos N c F) = pure k24.clos)
   (hd32 : k32.prm.defaults = []) (hk32 : k32.prm.kw_defaults = []) (ha32 : ∀ e, annTrees k32.prm none e = []) (hcl32 : ∀ N c F, closureFor k32.sc (cenvOf scope clos N c F) = pure k32.clos)
   (hd40 : k40.prm.defaults = []) (hk40 : k40.prm.kw_defaults = []) (ha40 : ∀ e, annTrees k40.prm none e = []) (hcl40 : ∀ N c F, closureFor k40.sc (cenvOf scope clos N c F) = pure k40.clos)
   (hd48 : k48.prm.defaults = []) (hk48 : k48.prm.kw_defaults = []) (ha48 : ∀ e, annTrees k48.prm none e = []) (hcl48 : ∀ N c F, closureFor k48.sc (cenvOf scope clos N c F) = pure k48.clos)
   (hd56 : k56.prm.defaults = []) (hk56 : k56.prm.kw_defaults = []) (ha56 : ∀ e, annTrees k56.prm none e = []) (hcl56 : ∀ N c F, closureFor k56.sc (cenvOf scope clos N c F) = pure k56.clos)
   (hl : k16.pos.line < k24.pos.line ∧ k24.pos.line < k32.pos.line ∧ k32.pos.line < k40.pos.line ∧ k40.pos.line < k48.pos.line ∧ k48.pos.line < k56.pos.line)
   (hg : h1.Ns mainGlobals mg) (hvn : mg "__name__" = some vn) (hgP : mainGlobals ≠ P0) (hbm : ∃ bm o, mg "__builtins__" = some (.ref bm) ∧ bm ≠ builtinsNs ∧ bm ≠ mainGlobals ∧ h1.get? bm = some o ∧ o.cls = .type "module" ∧ o.dict = some builtinsNs ∧ o.data = .plain)
   (D : X.Mem h1 h' [(P0, x)] (bodyNews0 N c' F P' tp oc ot oF z1 z2 z3 tk vn)) (H : HdO oc c' P')
   (q : ∀ h'' tk'' x9 ps t9 (hs : Nat → Int) (ts : Nat → Nat) m16 m24 m32 m40 m48 m56, X.Mem h1 h'' [(P0, x)] (bodyNews1 N c' F P' tp x9 oc ot oF ps hs ts t9 vn k16 k24 k32 k40 k48 k56 m16 m24 m32 m40 m48 m56) → Q .next ⟨h'', g, d, tk'', os⟩) :
   wpAny (model prog w) A (run (.body [.Assign [.Name "__module__" u1] (.Constant (.str "cpy313.functools") v1 u2) u3, .Assign [.Name "__slots__" u4] (.List [.Constant (.str "obj") v2 u5] u6) u7, .FunctionDef "__init__" k16.prm k16.body [] none [] k16.sc none "__init__" k16.pos, .FunctionDef "__lt__" k24.prm k24.body [] none [] k24.sc none "__lt__" k24.pos, .FunctionDef "__gt__" k32.prm k32.body [] none [] k32.sc none "__gt__" k32.pos, .FunctionDef "__eq__" k40.prm k40.body [] none [] k40.sc none "__eq__" k40.pos, .FunctionDef "__le__" k48.prm k48.body [] none [] k48.sc none "__le__" k48.pos, .FunctionDef "__ge__" k56.prm k56.body [] none [] k56.sc none "__ge__" k56.pos, .Assign [.Name "__hash__" u8] (.Constant .none v3 u9) u10] (cenvOf scope clos N c' F))) Q E ⟨h', g, d, tk + 1 + 1 + 1 + 1 + 1, os⟩ := by
  refine wpAny_run (codeAny_body rfl rfl ?_)
  show wpAny _ _ _ Q _ _
  refine wpAny_execs_cons (wpAny_Assign_Name (wpAny_Constant_str ?_))
  rw [hst N c' F _ (by exact .head _) (.str "cpy313.functools" (tk + 1 + 1 + 1 + 1 + 1))]
  refine m_localSet (fun za => ⟨.type "dict", none, .dict #[⟨z1, .str "__module__" tk, .str "cpy313.functools" (tk + 1 + 1 + 1 + 1 + 1)⟩, ⟨z2, .str "__qualname__" (tk + 1 + 1), .str "cmp_to_key.<locals>.K" (tk + 1)⟩, ⟨z3, .str "__firstlineno__" (tk + 1 + 1 + 1 + 1), .int 14 (tk + 1 + 1 + 1)⟩] 3, #[]⟩) D rfl 4 rfl (by kernel_rfl) (fun _ => by kernel_rfl) (fun _ => rfl) ?_
  intro za ha Da
  simp only [List.set_cons_zero, List.set_cons_succ] at Da
  dsimp only
  refine wpAny_execs_cons (wpAny_Assign_Name (m_strList Da fun x9 h0 D0 => ?_))
  rw [hst N c' F _ (by exact .tail _ (.head _)) (.ref x9)]
  refine m_localSet (fun zb => ⟨.type "dict", none, .dict #[⟨z1, .str "__module__" tk, .str "cpy313.functools" (tk + 1 + 1 + 1 + 1 + 1)⟩, ⟨z2, .str "__qualname__" (tk + 1 + 1), .str "cmp_to_key.<locals>.K" (tk + 1)⟩, ⟨z3, .str "__firstlineno__" (tk + 1 + 1 + 1 + 1), .int 14 (tk + 1 + 1 + 1)⟩, ⟨zb, .str "__slots__" (tk + 1 + 1 + 1 + 1 + 1 + 1 + 1 + 1), .ref x9⟩] 4, #[]⟩) D0 rfl 5 rfl (by kernel_rfl) (fun _ => by kernel_rfl) (fun _ => rfl) ?_
  intro zb hb Db
  simp only [List.set_cons_zero, List.set_cons_succ] at Db
  dsimp only
  have l1 := hl.1
  have l2 := hl.2.1
  have l3 := hl.2.2.1
  have l4 := hl.2.2.2.1
  have l5 := hl.2.2.2.2
  have l12 := Nat.lt_trans l1 l2
  have l23 := Nat.lt_trans l2 l3
  have l34 := Nat.lt_trans l3 l4
  have l45 := Nat.lt_trans l4 l5
  have l13 := Nat.lt_trans l12 l3
  have l24 := Nat.lt_trans l23 l4
  have l35 := Nat.lt_trans l34 l5
  have l14 := Nat.lt_trans l13 l4
  have l25 := Nat.lt_trans l24 l5
  have l15 := Nat.lt_trans l14 l5
  have T0 := TabOk.nil
  refine wpAny_execs_cons (m_def Db 3 rfl (by (repeat (first | exact List.mem_cons_self | apply List.mem_cons_of_mem))) H T0 (by (repeat refine nlt (by assumption) ?_); exact List.not_mem_nil) hd16 hk16 (ha16 _) (hqn _ _ _ _ (by exact .head _)) (hcl16 _ _ _) rfl rfl hg hvn (away_one hgP) hbm fun m16 h16_ tk16 D16_ => ?_)
  simp only [List.set_cons_zero, List.set_cons_succ] at D16_
  rw [hst N c' F _ (by exact .tail _ (.tail _ (.head _))) (.ref m16.f)]
  refine m_localSet (fun z16 => ⟨.type "dict", none, .dict #[⟨z1, .str "__module__" tk, .str "cpy313.functools" (tk + 1 + 1 + 1 + 1 + 1)⟩, ⟨z2, .str "__qualname__" (tk + 1 + 1), .str "cmp_to_key.<locals>.K" (tk + 1)⟩, ⟨z3, .str "__firstlineno__" (tk + 1 + 1 + 1 + 1), .int 14 (tk + 1 + 1 + 1)⟩, ⟨zb, .str "__slots__" (tk + 1 + 1 + 1 + 1 + 1 + 1 + 1 + 1), .ref x9⟩, ⟨z16, .str "__init__" tk16, .ref m16.f⟩] 5, #[]⟩) D16_ rfl 7 rfl (by kernel_rfl) (fun _ => by kernel_rfl) (fun _ => rfl) ?_
  intro z16 h16 D16
  simp only [List.set_cons_zero, List.set_cons_succ] at D16
  dsimp only
  have T1 := T0.snoc k16.pos.line k16.pos.col (.ref m16.fc)
  refine wpAny_execs_cons (m_def D16 5 rfl (by (repeat (first | exact List.mem_cons_self | apply List.mem_cons_of_mem))) H T1 (by (repeat refine nlt (by assumption) ?_); exact List.not_mem_nil) hd24 hk24 (ha24 _) (hqn _ _ _ _ (by exact .tail _ (.head _))) (hcl24 _ _ _) rfl rfl hg hvn (away_one hgP) hbm fun m24 h24_ tk24 D24_ => ?_)
  simp only [List.set_cons_zero, List.set_cons_succ] at D24_
  rw [hst N c' F _ (by exact .tail _ (.tail _ (.tail _ (.head _)))) (.ref m24.f)]
  refine m_localSet (fun z24 => ⟨.type "dict", none, .dict #[⟨z1, .str "__module__" tk, .str "cpy313.functools" (tk + 1 + 1 + 1 + 1 + 1)⟩, ⟨z2, .str "__qualname__" (tk + 1 + 1), .str "cmp_to_key.<locals>.K" (tk + 1)⟩, ⟨z3, .str "__firstlineno__" (tk + 1 + 1 + 1 + 1), .int 14 (tk + 1 + 1 + 1)⟩, ⟨zb, .str "__slots__" (tk + 1 + 1 + 1 + 1 + 1 + 1 + 1 + 1), .ref x9⟩, ⟨z16, .str "__init__" tk16, .ref m16.f⟩, ⟨z24, .str "__lt__" tk24, .ref m24.f⟩] 6, #[]⟩) D24_ rfl 9 rfl (by kernel_rfl) (fun _ => by kernel_rfl) (fun _ => rfl) ?_
  intro z24 h24 D24
  simp only [List.set_cons_zero, List.set_cons_succ] at D24
  dsimp only
  have T2 := T1.snoc k24.pos.line k24.pos.col (.ref m24.fc)
  refine wpAny_execs_cons (m_def D24 7 rfl (by (repeat (first | exact List.mem_cons_self | apply List.mem_cons_of_mem))) H T2 (by (repeat refine nlt (by assumption) ?_); exact List.not_mem_nil) hd32 hk32 (ha32 _) (hqn _ _ _ _ (by exact .tail _ (.tail _ (.head _)))) (hcl32 _ _ _) rfl rfl hg hvn (away_one hgP) hbm fun m32 h32_ tk32 D32_ => ?_)
  simp only [List.set_cons_zero, List.set_cons_succ] at D32_
  rw [hst N c' F _ (by exact .tail _ (.tail _ (.tail _ (.tail _ (.head _))))) (.ref m32.f)]
  refine m_localSet (fun z32 => ⟨.type "dict", none, .dict #[⟨z1, .str "__module__" tk, .str "cpy313.functools" (tk + 1 + 1 + 1 + 1 + 1)⟩, ⟨z2, .str "__qualname__" (tk + 1 + 1), .str "cmp_to_key.<locals>.K" (tk + 1)⟩, ⟨z3, .str "__firstlineno__" (tk + 1 + 1 + 1 + 1), .int 14 (tk + 1 + 1 + 1)⟩, ⟨zb, .str "__slots__" (tk + 1 + 1 + 1 + 1 + 1 + 1 + 1 + 1), .ref x9⟩, ⟨z16, .str "__init__" tk16, .ref m16.f⟩, ⟨z24, .str "__lt__" tk24, .ref m24.f⟩, ⟨z32, .str "__gt__" tk32, .ref m32.f⟩] 7, #[]⟩) D32_ rfl 11 rfl (by kernel_rfl) (fun _ => by kernel_rfl) (fun _ => rfl) ?_
  intro z32 h32 D32
  simp only [List.set_cons_zero, List.set_cons_succ] at D32
  dsimp only
  have T3 := T2.snoc k32.pos.line k32.pos.col (.ref m32.fc)
  refine wpAny_execs_cons (m_def D32 9 rfl (by (repeat (first | exact List.mem_cons_self | apply List.mem_cons_of_mem))) H T3 (by (repeat refine nlt (by assumption) ?_); exact List.not_mem_nil) hd40 hk40 (ha40 _) (hqn _ _ _ _ (by exact .tail _ (.tail _ (.tail _ (.head _))))) (hcl40 _ _ _) rfl rfl hg hvn (away_one hgP) hbm fun m40 h40_ tk40 D40_ => ?_)
  simp only [List.set_cons_zero, List.set_cons_succ] at D40_
  rw [hst N c' F _ (by exact .tail _ (.tail _ (.tail _ (.tail _ (.tail _ (.head _)))))) (.ref m40.f)]
  refine m_localSet (fun z40 => ⟨.type "dict", none, .dict #[⟨z1, .str "__module__" tk, .str "cpy313.functools" (tk + 1 + 1 + 1 + 1 + 1)⟩, ⟨z2, .str "__qualname__" (tk + 1 + 1), .str "cmp_to_key.<locals>.K" (tk + 1)⟩, ⟨z3, .str "__firstlineno__" (tk + 1 + 1 + 1 + 1), .int 14 (tk + 1 + 1 + 1)⟩, ⟨zb, .str "__slots__" (tk + 1 + 1 + 1 + 1 + 1 + 1 + 1 + 1), .ref x9⟩, ⟨z16, .str "__init__" tk16, .ref m16.f⟩, ⟨z24, .str "__lt__" tk24, .ref m24.f⟩, ⟨z32, .str "__gt__" tk32, .ref m32.f⟩, ⟨z40, .str "__eq__" tk40, .ref m40.f⟩] 8, #[]⟩) D40_ rfl 13 rfl (by kernel_rfl) (fun _ => by kernel_rfl) (fun _ => rfl) ?_
  intro z40 h40 D40
  simp only [List.set_cons_zero, List.set_cons_succ] at D40
  dsimp only
  have T4 := T3.snoc k40.pos.line k40.pos.col (.ref m40.fc)
  refine wpAny_execs_cons (m_def D40 11 rfl (by (repeat (first | exact List.mem_cons_self | apply List.mem_cons_of_mem))) H T4 (by (repeat refine nlt (by assumption) ?_); exact List.not_mem_nil) hd48 hk48 (ha48 _) (hqn _ _ _ _ (by exact .tail _ (.tail _ (.tail _ (.tail _ (.head _)))))) (hcl48 _ _ _) rfl rfl hg hvn (away_one hgP) hbm fun m48 h48_ tk48 D48_ => ?_)
  simp only [List.set_cons_zero, List.set_cons_succ] at D48_
  rw [hst N c' F _ (by exact .tail _ (.tail _ (.tail _ (.tail _ (.tail _ (.tail _ (.head _))))))) (.ref m48.f)]
  refine m_localSet (fun z48 => ⟨.type "dict", none, .dict #[⟨z1, .str "__module__" tk, .str "cpy313.functools" (tk + 1 + 1 + 1 + 1 + 1)⟩, ⟨z2, .str "__qualname__" (tk + 1 + 1), .str "cmp_to_key.<locals>.K" (tk + 1)⟩, ⟨z3, .str "__firstlineno__" (tk + 1 + 1 + 1 + 1), .int 14 (tk + 1 + 1 + 1)⟩, ⟨zb, .str "__slots__" (tk + 1 + 1 + 1 + 1 + 1 + 1 + 1 + 1), .ref x9⟩, ⟨z16, .str "__init__" tk16, .ref m16.f⟩, ⟨z24, .str "__lt__" tk24, .ref m24.f⟩, ⟨z32, .str "__gt__" tk32, .ref m32.f⟩, ⟨z40, .str "__eq__" tk40, .ref m40.f⟩, ⟨z48, .str "__le__" tk48, .ref m48.f⟩] 9, #[]⟩) D48_ rfl 15 rfl (by kernel_rfl) (fun _ => by kernel_rfl) (fun _ => rfl) ?_
  intro z48 h48 D48
  simp only [List.set_cons_zero, List.set_cons_succ] at D48
  dsimp only
  have T5 := T4.snoc k48.pos.line k48.pos.col (.ref m48.fc)
  refine wpAny_execs_cons (m_def D48 13 rfl (by (repeat (first | exact List.mem_cons_self | apply List.mem_cons_of_mem))) H T5 (by (repeat refine nlt (by assumption) ?_); exact List.not_mem_nil) hd56 hk56 (ha56 _) (hqn _ _ _ _ (by exact .tail _ (.tail _ (.tail _ (.tail _ (.tail _ (.head _))))))) (hcl56 _ _ _) rfl rfl hg hvn (away_one hgP) hbm fun m56 h56_ tk56 D56_ => ?_)
  simp only [List.set_cons_zero, List.set_cons_succ] at D56_
  rw [hst N c' F _ (by exact .tail _ (.tail _ (.tail _ (.tail _ (.tail _ (.tail _ (.tail _ (.head _)))))))) (.ref m56.f)]
  refine m_localSet (fun z56 => ⟨.type "dict", none, .dict #[⟨z1, .str "__module__" tk, .str "cpy313.functools" (tk + 1 + 1 + 1 + 1 + 1)⟩, ⟨z2, .str "__qualname__" (tk + 1 + 1), .str "cmp_to_key.<locals>.K" (tk + 1)⟩, ⟨z3, .str "__firstlineno__" (tk + 1 + 1 + 1 + 1), .int 14 (tk + 1 + 1 + 1)⟩, ⟨zb, .str "__slots__" (tk + 1 + 1 + 1 + 1 + 1 + 1 + 1 + 1), .ref x9⟩, ⟨z16, .str "__init__" tk16, .ref m16.f⟩, ⟨z24, .str "__lt__" tk24, .ref m24.f⟩, ⟨z32, .str "__gt__" tk32, .ref m32.f⟩, ⟨z40, .str "__eq__" tk40, .ref m40.f⟩, ⟨z48, .str "__le__" tk48, .ref m48.f⟩, ⟨z56, .str "__ge__" tk56, .ref m56.f⟩] 10, #[]⟩) D56_ rfl 17 rfl (by kernel_rfl) (fun _ => by kernel_rfl) (fun _ => rfl) ?_
  intro z56 h56 D56
  simp only [List.set_cons_zero, List.set_cons_succ] at D56
  dsimp only
  have T6 := T5.snoc k56.pos.line k56.pos.col (.ref m56.fc)
  refine wpAny_execs_cons (wpAny_Assign_Name (wpAny_Constant_none ?_))
  rw [hst N c' F _ (by exact .tail _ (.tail _ (.tail _ (.tail _ (.tail _ (.tail _ (.tail _ (.tail _ (.head _))))))))) .none]
  refine m_localSet (fun zc => ⟨.type "dict", none, .dict #[⟨z1, .str "__module__" tk, .str "cpy313.functools" (tk + 1 + 1 + 1 + 1 + 1)⟩, ⟨z2, .str "__qualname__" (tk + 1 + 1), .str "cmp_to_key.<locals>.K" (tk + 1)⟩, ⟨z3, .str "__firstlineno__" (tk + 1 + 1 + 1 + 1), .int 14 (tk + 1 + 1 + 1)⟩, ⟨zb, .str "__slots__" (tk + 1 + 1 + 1 + 1 + 1 + 1 + 1 + 1), .ref x9⟩, ⟨z16, .str "__init__" tk16, .ref m16.f⟩, ⟨z24, .str "__lt__" tk24, .ref m24.f⟩, ⟨z32, .str "__gt__" tk32, .ref m32.f⟩, ⟨z40, .str "__eq__" tk40, .ref m40.f⟩, ⟨z48, .str "__le__" tk48, .ref m48.f⟩, ⟨z56, .str "__ge__" tk56, .ref m56.f⟩, ⟨zc, .str "__hash__" (tk56 + 1), .none⟩] 11, #[]⟩) D56 rfl 17 rfl (by kernel_rfl) (fun _ => by kernel_rfl) (fun _ => rfl) ?_
  intro zc hc Dc
  simp only [List.set_cons_zero, List.set_cons_succ] at Dc
  dsimp only
  refine wpAny_execs_nil ?_
  exact q hc (tk56 + 1 + 1) x9 _ (tk + 1 + 1 + 1 + 1 + 1 + 1 + 1) (fun i => [z1, z2, z3, zb, z16, z24, z32, z40, z48, z56, zc].getD i 0) (fun i => [tk, tk + 1 + 1 + 1 + 1 + 1, tk + 1 + 1, tk + 1, tk + 1 + 1 + 1 + 1, tk + 1 + 1 + 1, tk + 1 + 1 + 1 + 1 + 1 + 1 + 1 + 1, tk16, tk24, tk32, tk40, tk48, tk56, tk56 + 1].getD i 0) m16 m24 m32 m40 m48 m56 Dc

end Mine.C2
end
section
open PySem PySem.Spec PySem.Calls PySem.W PyProof.Rows PySem.Builtin
set_option maxHeartbeats 0
namespace Mine.C2
theorem class_K {prog : Program} {w : World} {A : Around} {E : Value → Shared → Prop} {h₀ : Heap} {g : Array GenState} {d : Drawn} {t : Nat} {os : OsState} {Q : Value → Shared → Prop}
   {env : Env} {c0 P0 : Addr} {scope : Scope} {pos : Pos} {mg : Str → Option Value} {u1 u2 u3 u4 u5 u6 u7 u8 u9 u10 : Pos} {v1 v2 v3 : Nat} {qual : Str} {given : List Value} {kw : List (Str × Value)} {fl : Nat} (k16 k24 k32 k40 k48 k56 : Fn)
   (hA1 : A.handled = none) (hA2 : A.depth ≤ 600) {envs : List Env} (hA3 : A.frames = some envs) (hA5 : A.units ≤ 9000)
   (hc : env.code = .ref c0) (C : CodeHd h₀ c0 P0) (hP : h₀.get? P0 = some (X.tableObj #[])) (hge : env.globals = mainGlobals) (hbu : env.builtins = builtinsNs)
   (hcl1 : (scope.names.lookup ("__class__" : Str) == some NameKind.cell) = false) (hcl2 : (scope.names.lookup ("__classdict__" : Str) == some NameKind.cell) = false)
   (hg : h₀.Ns mainGlobals mg) (hb : ∃ bm o, mg "__builtins__" = some (.ref bm) ∧ bm ≠ builtinsNs ∧ bm ≠ mainGlobals ∧ h₀.get? bm = some o ∧ o.cls = .type "module" ∧ o.dict = some builtinsNs ∧ o.data = .plain)
   {vn : Value} (hvn : mg "__name__" = some vn) {clos : List (Str × Addr)} (hcf : closureFor scope env = pure clos) (hsk : scope.kind = .class) (hnl : h₀.NoLimit) (hgP : mainGlobals ≠ P0) (hcP : cStatics ≠ P0)
   (hst : ∀ N c F x, x ∈ (["__module__", "__qualname__", "__firstlineno__", "__static_attributes__", "__slots__", "__init__", "__lt__", "__gt__", "__eq__", "__le__", "__ge__", "__hash__"] : List Str) → ∀ v, storeName (cenvOf scope clos N c F) x v = localSet (cenvOf scope clos N c F) x v)
   {ost : Obj} (hcs : h₀.get? cStatics = some ost) (hcs2 : nsLook "thirdparty.any" ost = pure none)
   (q : ∀ (K ns md : Addr) (tK tm : Nat) (hs : Nat → Int) (tk : Nat → Nat) (B x9 x57 : Addr) (ho hd : Int) (m16 : Mt (qualOf "__init__")) (m24 : Mt (qualOf "__lt__")) (m32 : Mt (qualOf "__gt__")) (m40 : Mt (qualOf "__eq__")) (m48 : Mt (qualOf "__le__")) (m56 : Mt (qualOf "__ge__")) (h' : Heap) (t' : Nat),
      (∀ b o, h₀.get? b = some o → b ≠ P0 → h'.get? b = some o) → (∃ ps, h'.get? P0 = some (X.tableObj ps)) →
      (∀ p ∈ endK B ns K md tK tm hs tk x9 m16.f m24.f m32.f m40.f m48.f m56.f x57 ho hd ++ [(m16.f, m16.fn k16 vn), (m16.fc, m16.of), (m24.f, m24.fn k24 vn), (m24.fc, m24.of)], h'.get? p.1 = some p.2 ∧ h₀.get? p.1 = none) →
      Q (.ref K) ⟨h', g, d, t', os⟩)
   (hln : ∀ N c F, loadName (cenvOf scope clos N c F) "__name__" = lnOf (cenvOf scope clos N c F))
   (hqn : ∀ N c F x, x ∈ (["__init__", "__lt__", "__gt__", "__eq__", "__le__", "__ge__"] : List Str) → qualnameIn (cenvOf scope clos N c F) x x = qualOf x)
   (hd16 : k16.prm.defaults = []) (hk16 : k16.prm.kw_defaults = []) (ha16 : ∀ e, annTrees k16.prm none e = []) (hcl16 : ∀ N c F, closureFor k16.sc (cenvOf scope clos N c F) = pure k16.clos)
   (hd24 : k24.prm.defaults = []) (hk24 : k24.prm.kw_defaults = []) (ha24 : ∀ e, annTrees k24.prm none e = []) (hcl24 : ∀ N c F, closureFor k24.sc (cenvOf scope clos N c F) = pure k24.clos)
   (hd32 : k32.prm.defaults = []) (hk32 : k32.prm.kw_defaults = []) (ha32 : ∀ e, annTrees k32.prm none e = []) (hcl32 : ∀ N c F, closureFor k32.sc (cenvOf scope clos N c F) = pure k32.clos)
   (hd40 : k40.prm.defaults = []) (hk40 : k40.prm.kw_defaults = []) (ha40 : ∀ e, annTrees k40.prm none e = []) (hcl40 : ∀ N c F, closureFor k40.sc (cenvOf scope clos N c F) = pure k40.clos)
   (hd48 : k48.prm.defaults = []) (hk48 : k48.prm.kw_defaults = []) (ha48 : ∀ e, annTrees k48.prm none e = []) (hcl48 : ∀ N c F, closureFor k48.sc (cenvOf scope clos N c F) = pure k48.clos)
   (hd56 : k56.prm.defaults = []) (hk56 : k56.prm.kw_defaults = []) (ha56 : ∀ e, annTrees k56.prm none e = []) (hcl56 : ∀ N c F, closureFor k56.sc (cenvOf scope clos N c F) = pure k56.clos)
   (hl : k16.pos.line < k24.pos.line ∧ k24.pos.line < k32.pos.line ∧ k32.pos.line < k40.pos.line ∧ k40.pos.line < k48.pos.line ∧ k48.pos.line < k56.pos.line)
   (hqual : qual = "cmp_to_key.<locals>.K") (hgiven : given = [.type "object"]) (hkw : kw = []) (hfl : fl = 14) :
   wpAny (model prog w) A (buildClass "K" qual given kw [.Assign [.Name "__module__" u1] (.Constant (.str "cpy313.functools") v1 u2) u3, .Assign [.Name "__slots__" u4] (.List [.Constant (.str "obj") v2 u5] u6) u7, .FunctionDef "__init__" k16.prm k16.body [] none [] k16.sc none "__init__" k16.pos, .FunctionDef "__lt__" k24.prm k24.body [] none [] k24.sc none "__lt__" k24.pos, .FunctionDef "__gt__" k32.prm k32.body [] none [] k32.sc none "__gt__" k32.pos, .FunctionDef "__eq__" k40.prm k40.body [] none [] k40.sc none "__eq__" k40.pos, .FunctionDef "__le__" k48.prm k48.body [] none [] k48.sc none "__le__" k48.pos, .FunctionDef "__ge__" k56.prm k56.body [] none [] k56.sc none "__ge__" k56.pos, .Assign [.Name "__hash__" u8] (.Constant .none v3 u9) u10] scope ["obj"] fl env pos none) Q E ⟨h₀, g, d, t, os⟩ := by
  subst hqual hgiven hkw hfl
  refine buildClass_K k16 k24 k32 k40 k48 k56 hA1 hA2 hA3 hA5 hc C hP hge hbu hcl1 hcl2 hg hb hvn hcf hsk hnl hgP hcP (fun N c F x hx v => hst N c F x ?_ v) hcs hcs2 q hln ?_
  · exact (by (repeat refine sub_c (by repeat (first | exact List.mem_cons_self | apply List.mem_cons_of_mem)) ?_); exact sub_e : ∀ p ∈ _, p ∈ _) x hx
  intro h1 h' N c' F P' tp oc ot oF x z1 z2 z3 tk Q' k1 D H q'
  refine body_K (mg := mg) (fun N c F x hx v => hst N c F x ?_ v) hqn hd16 hk16 ha16 hcl16 hd24 hk24 ha24 hcl24 hd32 hk32 ha32 hcl32 hd40 hk40 ha40 hcl40 hd48 hk48 ha48 hcl48 hd56 hk56 ha56 hcl56 hl (hg.keeps k1) hvn hgP ?_ D H q'
  · exact (by (repeat refine sub_c (by repeat (first | exact List.mem_cons_self | apply List.mem_cons_of_mem)) ?_); exact sub_e : ∀ p ∈ _, p ∈ _) x hx
  · obtain ⟨bm, ob, b1, b2, b3, b4, b5⟩ := hb
    exact ⟨bm, ob, b1, b2, b3, k1 _ _ b4, b5⟩
end Mine.C2
end
section
open PySem PySem.Spec PySem.Calls PySem.W PyProof.Rows
namespace Mine
variable {p : Program} {loose : List Str} {w : World} {mean : ExcName → Option Value} {mg mb : Str → Option Value}

set_option maxHeartbeats 0
open Mine.C2
noncomputable abbrev clsL (B ns K md : Addr) (tK t : Nat) (hs : Nat → Int) (tk : Nat → Nat) (x9 x57 : Addr) (ho hd : Int) (vn : Value) (k16 k24 : Fn) (m16 : Mt (qualOf "__init__")) (m24 : Mt (qualOf "__lt__")) (m32 : Mt (qualOf "__gt__")) (m40 : Mt (qualOf "__eq__")) (m48 : Mt (qualOf "__le__")) (m56 : Mt (qualOf "__ge__")) : List (Addr × Obj) :=
  endK B ns K md tK t hs tk x9 m16.f m24.f m32.f m40.f m48.f m56.f x57 ho hd ++ [(m16.f, m16.fn k16 vn), (m16.fc, m16.of), (m24.f, m24.fn k24 vn), (m24.fc, m24.of)]
noncomputable def Spec35 (p : Program) (loose : List Str) (w : World) (mean : ExcName → Option Value) (mg mb : Str → Option Value) (p16 : Arguments) (b16 : List Stmt) (s16 : Scope) (q16 : Pos) (p24 : Arguments) (b24 : List Stmt) (s24 : Scope) (q24 : Pos) (vn : Value) : Prop :=
  ∀ (dp un : Nat) (gd : Option (List Code)) (cn : Str) (cs : Scope) (a : Addr) (ccd : Value) (cl : List (Str × Addr)) (outer : List Env) (A₀ : Around) (base h₀ : Heap) (L : Addr) (m : Str → Option Value) (led rest : List (Addr × Obj)) (s : Shared)
    (Q E : Value → Shared → Prop),
    Below A₀ base outer h₀ → Fr h₀ L s.heap m → (Mine.hd.heap_1 w.params).In h₀ → News h₀ L s.heap led → Top p loose mean mg mb h₀ → cs.kind = .function → (30, tabObj #[]) ∈ led → (∀ q ∈ rest, q ∈ led ∧ q.1 ≠ 30) → dp + 500 < recursionLimit → un + 1500 < cLine →
    (∀ (cell B ns K md : Addr) (oc : Obj) (tK tm : Nat) (hs : Nat → Int) (tk : Nat → Nat) (x9 x57 : Addr) (ho hd : Int) (m16 : Mt (qualOf "__init__")) (m24 : Mt (qualOf "__lt__")) (m32 : Mt (qualOf "__gt__")) (m40 : Mt (qualOf "__eq__")) (m48 : Mt (qualOf "__le__")) (m56 : Mt (qualOf "__ge__")) (ps : Array Value) (h' : Heap) (tk' : Nat),
      oc.data = .cell (some (.ref 207)) → Fr h₀ L h' m →
      News h₀ L h' ((cell, oc) :: (clsL B ns K md tK tm hs tk x9 x57 ho hd vn ⟨p16, b16, s16, q16, []⟩ ⟨p24, b24, s24, q24, [("mycmp", cell)]⟩ m16 m24 m32 m40 m48 m56 ++ (30, tabObj ps) :: rest)) → Q (.ref K) { s with heap := h', toks := tk' }) →
    wpAny (model PySem.Challenge.rw_ik0191_01.row.prog w) (ktrTop dp un gd cn cs L a ccd cl outer) (call (.ref 35) [.ref 207]) Q E s
structure Ctk (p : Program) (loose : List Str) (w : World) (mean : ExcName → Option Value) (mg mb : Str → Option Value) where
  p16 : Arguments
  b16 : List Stmt
  s16 : Scope
  q16 : Pos
  p24 : Arguments
  b24 : List Stmt
  s24 : Scope
  q24 : Pos
  vn : Value
  spec : Spec35 p loose w mean mg mb p16 b16 s16 q16 p24 b24 s24 q24 vn
theorem cls_news {gX hX h9 : Heap} {L1 : Addr} {m : Str → Option Value} {oR : Obj} {led rest own : List (Addr × Obj)} {ps : Array Value} (FX : Fr gX L1 hX m) (NX : News gX L1 hX ((L1 + 1, oR) :: led)) (kp : ∀ b o, hX.get? b = some o → b ≠ 30 → h9.get? b = some o)
    (h30' : h9.get? 30 = some (tabObj ps)) (h30 : hX.get? 30 = some (tabObj #[]) ∧ 30 ≠ L1 ∧ gX.get? 30 = none) (hrest : ∀ q ∈ rest, q ∈ led ∧ q.1 ≠ 30) (lN : ∀ q ∈ led, q.1 < L1) (hneed : (30, tabObj #[]) ∈ led) (nw : ∀ p ∈ own, h9.get? p.1 = some p.2 ∧ hX.get? p.1 = none) :
    News gX L1 h9 ((L1 + 1, oR) :: (own ++ (30, tabObj ps) :: rest)) := by
  intro q hq
  rcases List.mem_cons.mp hq with rfl | hq
  · have n := NX (L1 + 1, oR) (.head _)
    exact ⟨kp _ _ n.1 (Nat.ne_of_gt (Nat.lt_succ_of_lt (lN _ hneed))), n.2⟩
  · rcases List.mem_append.mp hq with hq | hq
    · have n := nw q hq
      refine ⟨n.1, fun e => ?_, Led.none FX.keep n.2⟩
      obtain ⟨o, es, ep, e', r⟩ := FX.ns
      have n2 := n.2
      rw [e, e'] at n2; cases n2
    · rcases List.mem_cons.mp hq with rfl | hq
      · exact ⟨h30', h30.2⟩
      · have n := NX q (List.mem_cons_of_mem _ (hrest q hq).1)
        exact ⟨kp _ _ n.1 (hrest q hq).2, n.2⟩
noncomputable def ctk : Ctk p loose w mean mg mb := ⟨_, _, _, _, _, _, _, _, _, by
  unfold Spec35; k_fill
  intro dp un gd cn cs a ccd cl outer A₀ base h₀ L m led rest s Q E B F X N T hk hneed hrest hd hu hret
  refine wpAny_call ?_
  (refine' code_defC ?k1 ?k2 ?k3 ?k4 ?k5 ?kA ?kF ?kK ?k6 ?k7 ?k8 ?k9 ?kB ?kD ?_ ?c2 ?c3 ?c4; (case kA | kF => exact rfl); (case kK => assumption); (case k1 | k2 | k3 | k4 | k5 => k_asm); (case k6 | k7 => k_is); (case k8 => ktr_room); (case k9 => first | exact BindsTo.of_eq rfl | exact binds_K (by k_in) rfl (by k_is) rfl rfl rfl); (case kB => exact rfl); (case kD => decide +kernel); (case c2 | c3 | c4 => exact rfl); k_whole; walk_at "mine e2")
  rename_i gX L1 hX tX FGX FX BX XX TX lN oR dR NX
  change oR.data = Data.cell (some (Value.ref 207)) at dR
  change Fr gX L1 hX (fun _ => none) at FX
  refine wpAny_execs_cons ?_
  rw [arm_exec_ClassDef]
  (repeat (first | exists "PySem.eval buildClass bindName nsGet", by (with_reducible show wpAny _ _ (@x ..) _ _ _); refine Halt.out ?_ | exists "wpAny_bind wpAny_pure wpAny_holding wpAny_standAt wpAny_point wpAny_rule", by with_reducible refine x ?_ | ((with_reducible show wpAny _ _ (ite _ _ _) _ _ _); first | refine wpAny_ite_false (by rfl) ?_ | refine wpAny_ite_true (by rfl) ?_) | wp_delta))
  refine Halt.go (wpAny_nsGet (TX.b.keeps FX.keep) ?_)
  rw [(TX.builtins "__build_class__" (by decide)).trans (show bootBuiltins "__build_class__" = some (.builtin "__build_class__") by kernel_rfl)]
  (repeat (first | exists "PySem.eval buildClass bindName nsGet", by (with_reducible show wpAny _ _ (@x ..) _ _ _); refine Halt.out ?_ | exists "wpAny_bind wpAny_pure wpAny_holding wpAny_standAt wpAny_point wpAny_rule", by with_reducible refine x ?_ | ((with_reducible show wpAny _ _ (ite _ _ _) _ _ _); first | refine wpAny_ite_false (by rfl) ?_ | refine wpAny_ite_true (by rfl) ?_) | wp_delta))
  refine Halt.go ?_
  k_steps
  (repeat (first | exists "PySem.eval buildClass bindName nsGet", by (with_reducible show wpAny _ _ (@x ..) _ _ _); refine Halt.out ?_ | exists "wpAny_bind wpAny_pure wpAny_holding wpAny_standAt wpAny_point wpAny_rule", by with_reducible refine x ?_ | ((with_reducible show wpAny _ _ (ite _ _ _) _ _ _); first | refine wpAny_ite_false (by rfl) ?_ | refine wpAny_ite_true (by rfl) ?_) | wp_delta))
  have nodup : ∀ b o, gX.get? b = some o → hX.get? b = some o := FX.keep
  have h30 := NX (30, tabObj #[]) (List.mem_cons_of_mem _ hneed)
  have bm0 : ∃ bm o, mg "__builtins__" = some (.ref bm) ∧ bm ≠ builtinsNs ∧ bm ≠ mainGlobals ∧ hX.get? bm = some o ∧ o.cls = .type "module" ∧ o.dict = some builtinsNs ∧ o.data = .plain := by
    obtain ⟨bm, ob, b1, b2, b3, b4, b5, b6⟩ := TX.bmain
    exact ⟨bm, ob, b1, b2, (fun q => by
      obtain ⟨o, es, ep, e, hd, _⟩ := TX.g
      rw [q, e] at b3; cases b3; rw [hd] at b6; cases b6), FX.keep _ _ b3, b4, b5, b6⟩
  have c34 : CodeHd gX 34 30 := ⟨_, _, _, _, _, _, _, _, _, XX 34 _ rfl, rfl, rfl, rfl, rfl, rfl, rfl, rfl, rfl, by decide⟩
  refine Halt.go ?_
  refine class_K (mg := mg) ⟨_, _, _, _, []⟩ ⟨_, _, _, _, [("mycmp", L1 + 1)]⟩ ⟨_, _, _, _, [("mycmp", L1 + 1)]⟩ ⟨_, _, _, _, [("mycmp", L1 + 1)]⟩ ⟨_, _, _, _, [("mycmp", L1 + 1)]⟩ ⟨_, _, _, _, [("mycmp", L1 + 1)]⟩
    rfl ?hA2 rfl ?hA5 rfl (c34.keeps FX.keep) h30.1 rfl rfl rfl rfl (TX.g.keeps FX.keep) bm0 (mg_of XX TX.g rfl) (clos := [("mycmp", L1 + 1)]) rfl rfl (TX.nolimit.keeps FX.keep) (by decide) (by decide) ?hst (FX.keep _ _ (XX cStatics _ rfl)) (by kernel_rfl) ?q (fun N c F => by kernel_rfl)
    ?hqn rfl rfl (fun _ => rfl) (fun _ _ _ => rfl) rfl rfl (fun _ => rfl) (fun _ _ _ => rfl) rfl rfl (fun _ => rfl) (fun _ _ _ => rfl) rfl rfl (fun _ => rfl) (fun _ _ _ => rfl) rfl rfl (fun _ => rfl) (fun _ _ _ => rfl) rfl rfl (fun _ => rfl) (fun _ _ _ => rfl)
    ⟨Nat.le_of_ble_eq_true rfl, Nat.le_of_ble_eq_true rfl, Nat.le_of_ble_eq_true rfl, Nat.le_of_ble_eq_true rfl, Nat.le_of_ble_eq_true rfl⟩ (by kernel_rfl) rfl rfl rfl
  case hA2 =>
    show dp + 1 ≤ 600
    have : recursionLimit = 1000 := rfl
    (exact Ar.go [_, _] [(.P (.P (.V 0) (.N 500)) (.N 1), .V 1, 1), (.V 1, .N 1000, 1)] 1 (.P (.V 0) (.N 1)) (.N 600) rfl hd (Nat.le_of_eq this))
  case hA5 =>
    show un + 3 ≤ 9000
    have : cLine = 9900 := rfl
    (exact Ar.go [_, _] [(.P (.P (.V 0) (.N 1500)) (.N 1), .V 1, 1), (.V 1, .N 9900, 1)] 1 (.P (.V 0) (.N 3)) (.N 9000) rfl hu (Nat.le_of_eq this))
  case hst =>
    intro N c F x hx v
    simp only [List.mem_cons, List.not_mem_nil, or_false] at hx
    rcases hx with rfl | rfl | rfl | rfl | rfl | rfl | rfl | rfl | rfl | rfl | rfl | rfl <;> kernel_rfl
  case hqn =>
    intro N c F x hx
    simp only [List.mem_cons, List.not_mem_nil, or_false] at hx
    rcases hx with rfl | rfl | rfl | rfl | rfl | rfl <;> kernel_rfl
  case q =>
    intro K ns md tK tm hs tk B9 x9 x57 ho hd9 m16 m24 m32 m40 m48 m56 h9 t9 kp ⟨ps, h30'⟩ nw
    have L30 : L1 ≠ 30 := h30.2.1.symm
    have F9 : Fr gX L1 h9 (fun _ => none) := by
      obtain ⟨o, es, ep, e, r⟩ := FX.ns
      exact ⟨⟨o, es, ep, kp _ _ e L30, r⟩, fun b o e => kp b o (FX.keep b o e) (fun q => by rw [q, h30.2.2] at e; cases e), FX.above⟩
    have N9 := cls_news FX NX kp h30' h30 hrest lN hneed nw
    clear kp nw bm0 c34 nodup
    (repeat (first | exists "PySem.eval buildClass bindName nsGet", by (with_reducible show wpAny _ _ (@x ..) _ _ _); refine Halt.out ?_ | exists "wpAny_bind wpAny_pure wpAny_holding wpAny_standAt wpAny_point wpAny_rule", by with_reducible refine x ?_ | ((with_reducible show wpAny _ _ (ite _ _ _) _ _ _); first | refine wpAny_ite_false (by rfl) ?_ | refine wpAny_ite_true (by rfl) ?_) | wp_delta))
    refine Halt.go (wpAny_bindName ?_)
    k_steps
    refine wpAny_pure ?_
    dsimp only
    k_steps
    exact hret (L1 + 1) B9 ns K md oR tK tm hs _ x9 x57 ho hd9 m16 m24 m32 m40 m48 m56 ps _ _ dR (by assumption) (by assumption)⟩
end Mine
end
section
open PySem PySem.Spec PySem.Calls PySem.W PyProof.Rows PySem.Builtin
set_option maxHeartbeats 400000
namespace Mine.C2
structure Kd where
  B : Addr
  ns : Addr
  K : Addr
  md : Addr
  f16 : Addr
  f24 : Addr
  f32 : Addr
  f40 : Addr
  f48 : Addr
  f56 : Addr
  x9 : Addr
  x57 : Addr
  tK : Nat
  tm : Nat
  hs : Nat → Int
  tk : Nat → Nat
  ho : Int
  hd : Int
  d16 : FuncData
  d24 : FuncData
noncomputable abbrev Kd.oK (k : Kd) : Obj := ⟨.type "type", none, .cls { name := "K", bases := [.type "object"], mro := [.ref k.K, .type "object"], ns := k.ns, qualname := "cmp_to_key.<locals>.K", hasDict := false, slotNames := ["obj"] }, #[some (.ref k.B), none, some (.str "K" k.tK), some (.str "cmp_to_key.<locals>.K" (k.tk 3)), some (.builtin "object.__new__"), some (.bool false)]⟩
noncomputable abbrev Kd.oNs (k : Kd) : Obj := ⟨.type "dict", none, .dict (ent4 k.hs k.tk k.x9 k.f16 k.f24 k.f32 k.f40 k.f48 k.f56 k.x57 k.ho (k.tm + 1) k.md k.hd (k.tm + 1 + 1)) 3, #[]⟩
noncomputable abbrev Kd.oMd (k : Kd) : Obj := ⟨.type "member_descriptor", none, .fields #[.str "obj" k.tm, .ref k.K, .builtin "proto.slot", .builtin "proto.slot#set", .int 0 0], #[]⟩
noncomputable abbrev oFn (d : FuncData) : Obj := { cls := .type "function", data := .func d }
noncomputable def Kd.fr (k : Kd) : Frag := [(k.K, k.oK), (k.ns, k.oNs), (k.md, k.oMd), (k.f16, oFn k.d16), (k.f24, oFn k.d24)]
structure Kd.Dis (k : Kd) : Prop where
  a1 : k.ns ≠ k.K
  a2 : k.md ≠ k.K
  a3 : k.md ≠ k.ns
  b1 : k.f16 ≠ k.K
  b2 : k.f16 ≠ k.ns
  b3 : k.f16 ≠ k.md
  c1 : k.f24 ≠ k.K
  c2 : k.f24 ≠ k.ns
  c3 : k.f24 ≠ k.md
  c4 : k.f24 ≠ k.f16
section
variable {k : Kd}
theorem kf_K : k.fr.lookup k.K = some k.oK := by simp [Kd.fr]
theorem kf_ns (D : k.Dis) : k.fr.lookup k.ns = some k.oNs := by
  simp only [Kd.fr, List.lookup_cons, beq_eq_false_iff_ne.mpr D.a1, beq_self_eq_true]
theorem kf_md (D : k.Dis) : k.fr.lookup k.md = some k.oMd := by
  simp only [Kd.fr, List.lookup_cons, beq_eq_false_iff_ne.mpr D.a2, beq_eq_false_iff_ne.mpr D.a3, beq_self_eq_true]
theorem kf_16 (D : k.Dis) : k.fr.lookup k.f16 = some (oFn k.d16) := by
  simp only [Kd.fr, List.lookup_cons, beq_eq_false_iff_ne.mpr D.b1, beq_eq_false_iff_ne.mpr D.b2, beq_eq_false_iff_ne.mpr D.b3, beq_self_eq_true]
theorem kf_24 (D : k.Dis) : k.fr.lookup k.f24 = some (oFn k.d24) := by
  simp only [Kd.fr, List.lookup_cons, beq_eq_false_iff_ne.mpr D.c1, beq_eq_false_iff_ne.mpr D.c2, beq_eq_false_iff_ne.mpr D.c3, beq_eq_false_iff_ne.mpr D.c4, beq_self_eq_true]
theorem kf_nsIn (D : k.Dis) {name : Str} {r : Option Value} (e : (match (ent4 k.hs k.tk k.x9 k.f16 k.f24 k.f32 k.f40 k.f48 k.f56 k.x57 k.ho (k.tm + 1) k.md k.hd (k.tm + 1 + 1)).toList.find? (·.key.isStr name) with
    | some e => some (some e.val)
    | none => if (ent4 k.hs k.tk k.x9 k.f16 k.f24 k.f32 k.f40 k.f48 k.f56 k.x57 k.ho (k.tm + 1) k.md k.hd (k.tm + 1 + 1)).toList.any (·.refKey) then none else some none) = some r) : nsIn k.fr k.ns name = some r := by
  unfold nsIn; rw [kf_ns D]; exact e
theorem kf_find (D : k.Dis) {name : Str} {v : Value} (e : nsIn k.fr k.ns name = some (some v)) : findIn k.fr (.ref k.K) name = some (some v) := by
  unfold findIn; dsimp only; rw [kf_K]
  show alongIn k.fr name [.ref k.K, .type "object"] = _
  unfold alongIn
  have : ownIn k.fr name (.ref k.K) = some (some v) := by unfold ownIn; dsimp only; rw [kf_K]; exact e
  rw [this]
theorem kf_findO (D : k.Dis) {name : Str} {r : Option Value} (e : nsIn k.fr k.ns name = some none) (e2 : fastBuiltinOwn "object" name = r) : findIn k.fr (.ref k.K) name = some r := by
  unfold findIn; dsimp only; rw [kf_K]
  show alongIn k.fr name [.ref k.K, .type "object"] = _
  have : ownIn k.fr name (.ref k.K) = some none := by unfold ownIn; dsimp only; rw [kf_K]; exact e
  unfold alongIn
  rw [this]
  show alongIn k.fr name [.type "object"] = _
  unfold alongIn
  rw [show ownIn k.fr name (.type "object") = some r from congrArg some e2]
  cases r with
  | some v => rfl
  | none => rfl
theorem kf_init (D : k.Dis) : findIn k.fr (.ref k.K) "__init__" = some (some (.ref k.f16)) := kf_find D (kf_nsIn D (by kernel_rfl))
theorem kf_lt (D : k.Dis) : findIn k.fr (.ref k.K) "__lt__" = some (some (.ref k.f24)) := kf_find D (kf_nsIn D (by kernel_rfl))
theorem kf_obj (D : k.Dis) : findIn k.fr (.ref k.K) "obj" = some (some (.ref k.md)) := kf_find D (kf_nsIn D (by kernel_rfl))
theorem kf_setattr (D : k.Dis) : findIn k.fr (.ref k.K) "__setattr__" = some (some (.builtin "object.__setattr__")) := kf_findO D (kf_nsIn D (by kernel_rfl)) (by kernel_rfl)
theorem kf_ga (D : k.Dis) : findIn k.fr (.ref k.K) "__getattribute__" = some (some (.builtin "object.__getattribute__")) := kf_findO D (kf_nsIn D (by kernel_rfl)) (by kernel_rfl)
theorem kf_gat (D : k.Dis) : findIn k.fr (.ref k.K) "__getattr__" = some none := kf_findO D (kf_nsIn D (by kernel_rfl)) (by kernel_rfl)
theorem kf_fn16 (D : k.Dis) : typeIn k.fr (.ref k.f16) = some (.type "function") := by unfold typeIn; dsimp only; rw [kf_16 D]; rfl
theorem kf_fn24 (D : k.Dis) : isFn k.fr (.ref k.f24) = true := by unfold isFn typeIn; dsimp only; rw [kf_24 D]; kernel_rfl
theorem kf_tmd (D : k.Dis) : typeIn k.fr (.ref k.md) = some (.type "member_descriptor") := by unfold typeIn; dsimp only; rw [kf_md D]; rfl
theorem kf_tK (D : k.Dis) : typeIn k.fr (.ref k.K) = some (.type "type") := by unfold typeIn; dsimp only; rw [kf_K]; rfl
theorem kf_cls (D : k.Dis) : clsIn k.fr k.K = some { name := "K", bases := [.type "object"], mro := [.ref k.K, .type "object"], ns := k.ns, qualname := "cmp_to_key.<locals>.K", hasDict := false, slotNames := ["obj"] } := by unfold clsIn; rw [kf_K]
theorem kf_sp (D : k.Dis) {v : Value} {T : String} {name : Str} {r : Option Value} (t : typeIn k.fr v = some (.type T)) (e : fastLookup T name = some r) : specialIn k.fr v name = some r := by
  unfold specialIn; rw [t]; exact e
theorem kf_get (D : k.Dis) : specialIn k.fr (.ref k.md) "__get__" = some (some (.builtin "member_descriptor.__get__")) := kf_sp D (kf_tmd D) (by kernel_rfl)
theorem kf_takes (D : k.Dis) : takesIn k.fr (.ref k.md) = some true := by
  unfold takesIn; rw [kf_sp D (kf_tmd D) (r := some (.builtin "member_descriptor.__set__")) (by kernel_rfl)]
theorem kf_taker (D : k.Dis) : takerIn k.fr k.K "obj" = some (some (.ref k.md)) := by
  unfold takerIn; rw [kf_obj D]
  show (takesIn k.fr (.ref k.md)).map _ = _
  rw [kf_takes D]; rfl
theorem kf_plainOver (D : k.Dis) : plainOver k.fr k.K = true := by
  unfold plainOver; rw [kf_cls D]
  show onlyObject [.ref k.K, .type "object"] = true
  kernel_rfl
theorem kf_slot (D : k.Dis) : slotIn k.fr k.md k.K = some 0 := by
  unfold slotIn recIn; rw [kf_md D, kf_cls D]
  dsimp only
  simp
theorem kf_isCls (D : k.Dis) : isClsIn k.fr k.K = true := by unfold isClsIn; rw [kf_cls D]; rfl
theorem kf_makes (D : k.Dis) : makesIn k.fr k.K = true := by
  have h1 : specialIn k.fr (.ref k.K) "__call__" = some (some (.builtin "type.__call__")) := kf_sp D (kf_tK D) (by kernel_rfl)
  have h2 : instIn k.fr (.ref k.K) (.type "type") = some true := by
    unfold instIn; rw [kf_tK D]
    show subIn k.fr (.type "type") (.type "type") = _
    kernel_rfl
  unfold makesIn; rw [kf_K]
  dsimp only
  rw [h1, h2]
  simp
end
end Mine.C2
end
section
open PySem PySem.Spec PySem.Calls PySem.W PyProof.Rows
namespace Mine
variable {p : Program} {loose : List Str} {w : World} {mean : ExcName → Option Value} {mg mb : Str → Option Value}

set_option maxHeartbeats 0
open Mine.C2 PySem.Builtin

theorem Kd_In {k : Kd} {h : Heap} (x : ∀ q ∈ k.fr, h.get? q.1 = some q.2) : k.fr.In h := fun a o e => x _ (mem_of_lookupK e)
theorem Kd_dis {k : Kd} {h : Heap} (x : ∀ q ∈ k.fr, h.get? q.1 = some q.2) (h16 : k.d16.name = "__init__") (h24 : k.d24.name = "__lt__") : k.Dis := by
  have x1 := x (k.K, k.oK) (by unfold Kd.fr; repeat (first | exact List.mem_cons_self | apply List.mem_cons_of_mem))
  have x2 := x (k.ns, k.oNs) (by unfold Kd.fr; repeat (first | exact List.mem_cons_self | apply List.mem_cons_of_mem))
  have x3 := x (k.md, k.oMd) (by unfold Kd.fr; repeat (first | exact List.mem_cons_self | apply List.mem_cons_of_mem))
  have x4 := x (k.f16, oFn k.d16) (by unfold Kd.fr; repeat (first | exact List.mem_cons_self | apply List.mem_cons_of_mem))
  have x5 := x (k.f24, oFn k.d24) (by unfold Kd.fr; repeat (first | exact List.mem_cons_self | apply List.mem_cons_of_mem))
  have ne : ∀ {a b : Addr} {o o' : Obj}, h.get? a = some o → h.get? b = some o' → o ≠ o' → a ≠ b := fun e e' n q => n (by rw [q, e'] at e; exact (Option.some.inj e).symm)
  refine ⟨ne x2 x1 ?_, ne x3 x1 ?_, ne x3 x2 ?_, ne x4 x1 ?_, ne x4 x2 ?_, ne x4 x3 ?_, ne x5 x1 ?_, ne x5 x2 ?_, ne x5 x3 ?_, ne x5 x4 ?_⟩
  all_goals intro q
  all_goals first
    | (have := congrArg (fun o : Obj => o.data) q; cases this; done)
    | skip
  have q2 : k.d24 = k.d16 := by
    exact Data.func.inj (congrArg Obj.data q)
  rw [q2, h16] at h24
  exact absurd h24 (by decide)
noncomputable abbrev instK (K dx x : Addr) : Obj := { cls := .ref K, dict := some dx, data := .plain, slots := #[some (.ref x)] }
theorem K_call {k : Kd} {m16 : Mt (qualOf "__init__")} {x : Addr} {vn : Value} {dp un : Nat} {gd : Option (List Code)} {cn : Str} {cs : Scope} {a : Addr} {ccd : Value} {cl : List (Str × Addr)} {outer : List Env} {A₀ : Around} {base h₀ : Heap} {L : Addr} {m : Str → Option Value} {news : List (Addr × Obj)} {s : Shared} {Q E : Value → Shared → Prop}
    (B : Below A₀ base outer h₀) (F : Fr h₀ L s.heap m) (X : (Mine.hd.heap_1 w.params).In h₀) (N : News h₀ L s.heap news) (T : Top p loose mean mg mb h₀) (hk : cs.kind = .function)
    (hneed : ∀ q ∈ k.fr, q ∈ news) (hm : (m16.fc, m16.of) ∈ news) (h16 : (k.f16, oFn k.d16) = (m16.f, m16.fn ⟨(ctk (p := p) (loose := loose) (w := w) (mean := mean) (mg := mg) (mb := mb)).p16, (ctk (p := p) (loose := loose) (w := w) (mean := mean) (mg := mg) (mb := mb)).b16, (ctk (p := p) (loose := loose) (w := w) (mean := mean) (mg := mg) (mb := mb)).s16, (ctk (p := p) (loose := loose) (w := w) (mean := mean) (mg := mg) (mb := mb)).q16, []⟩ vn))
    (h24 : k.d24.name = "__lt__") (hd : dp + 20 < recursionLimit) (hu : un + 200 < cLine)
    (ret : ∀ o dx h' tk', Fr h₀ L h' m → News h₀ L h' ((o, instK k.K dx x) :: (dx, emptyDict) :: news) → (∀ q ∈ news, q.1 < dx) → dx < o → Q (.ref o) { s with heap := h', toks := tk' }) :
    wpAny (model PySem.Challenge.rw_ik0191_01.row.prog w) (ktrTop dp un gd cn cs L a ccd cl outer) (call (.ref k.K) [.ref x]) Q E s := by
  obtain ⟨hh, g, d, t, os⟩ := s
  obtain ⟨e1, e2⟩ := Prod.mk.inj h16
  have e3 : k.d16 = fnX "__init__" _ _ _ _ _ _ _ _ _ _ _ _ := Data.func.inj (congrArg Obj.data e2)
  have x0 : ∀ q ∈ k.fr, hh.get? q.1 = some q.2 := fun q hq => (N q (hneed q hq)).1
  have D := Kd_dis x0 (by rw [e3]) h24
  have XK := Kd_In x0
  refine wpAny_call ?_
  refine make_core (makes_of XK (kf_makes D)) (looks_findIn XK (kf_init D)) (fun self => bind_fn XK self (kf_fn16 D)) (.inl rfl) ?_
  have F2 := (F.push emptyDict).push (instObj k.K hh.objs.size)
  have N2 := (N.push F emptyDict).push (F.push _) (instObj k.K hh.objs.size)
  have lt0 : ∀ q ∈ news, q.1 < hh.objs.size := fun q hq => Heap.lt_size (N q hq).1
  rw [Heap.size_push] at N2
  dsimp only at F2 N2 lt0
  generalize hx : hh.objs.size = dx at *
  generalize ((hh.push emptyDict).push (instObj k.K dx)) = h2 at *
  rw [e1]
  have hm16 := hneed _ (show (k.f16, oFn k.d16) ∈ k.fr by simp [Kd.fr])
  rw [h16] at hm16
  have l2 : ∀ {q}, q ∈ news → q ∈ (dx + 1, instObj k.K dx) :: (dx, emptyDict) :: news := fun h => List.mem_cons_of_mem _ (List.mem_cons_of_mem _ h)
  refine code_nest B F2 X N2 T rfl rfl hk (l2 hm16) (codeRec_news N2 (l2 hm) m16.hd m16.hv) ?hroom (BindsTo.of_eq rfl) ?hloc ?_ rfl rfl rfl ?hcell
  case hroom => show dp + 1 < recursionLimit; (exact Ar.go [_, _] [(.P (.P (.V 0) (.N 20)) (.N 1), .V 1, 1)] 1 (.P (.P (.V 0) (.N 1)) (.N 1)) (.V 1) rfl hd)
  case hloc => exact locs rfl
  case hcell => dsimp only [ctk]; decide
  intro gX L1 h3 FGX F3 N3 BX XX TX
  dsimp only [ctk]
  refine wpAny_execs_cons (plainObj_wpAny_Assign_Attribute ?_)
  k_steps
  have x3 : ∀ q ∈ k.fr, h3.get? q.1 = some q.2 := fun q hq => (N3 q (l2 (hneed q hq))).1
  have I : InstAt h3 (dx + 1) (instObj k.K dx) k.K (some emptyDict) := ⟨(N3 _ (.head _)).1, rfl, rfl, (N3 (dx, emptyDict) (.tail _ (.head _))).1⟩
  refine set_plain (Kd_In x3) I (kf_setattr D) (osa_descr KF.slot_mset (Kd_In x3) I (kf_plainOver D) (kf_taker D) (kf_tmd D) (slot_set (pre := []) F3 N3 (Kd_In x3) I (kf_slot D) (by decide) (fun _ h => nomatch h) ?h2 rfl rfl fun h4 F4 N4 => ?_))
  case h2 =>
    intro q hq
    rcases List.mem_cons.mp hq with rfl | hq
    · exact Nat.ne_of_lt (Nat.lt_succ_self _)
    · exact Nat.ne_of_lt (Nat.lt_succ_of_lt (lt0 q hq))
  refine wpAny_execs_nil ?_
  exact leaveK_ F4 N4 fun F5 N5 => ⟨rfl, ret _ _ _ _ F5 N5 lt0 (Nat.lt_succ_self _)⟩
end Mine
end
section
open Mine.h4
open PySem PySem.Spec PySem.Calls PySem.W PyProof.Rows
namespace Mine
variable {p : Program} {loose : List Str} {w : World} {mean : ExcName → Option Value} {mg mb : Str → Option Value}

set_option maxHeartbeats 4000000
noncomputable def cmpInt (x y : Str) : Int := (5 * if decide (y.cps.toList < x.cps.toList) = true then 1 else 0) - 3 * if decide (x.cps.toList < y.cps.toList) = true then 1 else 0
theorem cmp_spec (a1 b1 : Addr) (x y : Str) (i j : Int) (t1 t2 t3 t4 : Tok) (n1 n2 : Nat) :
  Spec p loose w mean mg mb 207 8 80 [.ref a1, .ref b1] [(a1, listOf #[.str x t1, .int i t2] n1), (b1, listOf #[.str y t3, .int j t4] n2)] (RInt (cmpInt x y)) := by
  unfold Spec; k_fill
  intro dp un gd cn cs a ccd cl outer A₀ base h₀ L m news s Q E B F X N T hk hneed hd hu hret
  have hm1 := hneed _ (.head _)
  have hm2 := hneed _ (.tail _ (.head _))
  refine wpAny_call ?_
  (refine' code_def ?k1 ?k2 ?k3 ?k4 ?k5 ?kA ?kF ?kK ?k6 ?k7 ?k8 ?k9 ?kB ?_ ?c2 ?c3 ?c4 ?c5; (case kA | kF => exact rfl); (case kK => assumption); (case k1 | k2 | k3 | k4 | k5 => k_asm); (case k6 | k7 => k_is); (case k8 => ktr_room); (case k9 => first | exact BindsTo.of_eq rfl | exact binds_K (by k_in) rfl (by k_is) rfl rfl rfl); (case c5 => decide); (case kB => exact locs rfl); (case c2 | c3 | c4 => exact rfl); k_whole; intro _ _ _ _ _ _ _ _ _; (try dsimp only); (try k_fold))
  (k_steps; repeat (any_goals (refine Halt.go ?_; (with_reducible show wpAny _ _ (subscriptTail _ _ (Value.ref _) (Value.int _ _)) _ _ _); k_dflt (refine' item_ledL (by k_asm) (by k_mem) (by first | decide | omega) (by first | decide | omega) (by first | rfl | assumption) ?_); k_steps)))
  all_goals exact ret_int hret rfl (by k_asm) (by k_asm)
end Mine
end
section
open Mine.h29
open PySem PySem.Spec PySem.Calls PySem.W PyProof.Rows
namespace Mine
variable {p : Program} {loose : List Str} {w : World} {mean : ExcName → Option Value} {mg mb : Str → Option Value}

set_option maxHeartbeats 0
open Mine.C2 PySem.Builtin

theorem get_obj {prog : Program} {w : World} {A : Around} {E : Value → Shared → Prop} {s : Shared} {k : Kd} {o : Addr} {od : Obj} {ox : Obj} {v : Value} {expr : Bool} {Q : Value → Shared → Prop} (D : k.Dis) (X : k.fr.In s.heap) (I : InstAt s.heap o ox k.K (some od)) (hv : (ox.slots[0]?).join = some v) (hh : handedIn v = true)
    (h : Q v { s with toks := s.toks + 1 }) : wpAny (model prog w) A (getAttr (.ref o) "obj" expr) Q E s :=
  get_bind X I (kf_ga D) (findObj_data (kf_isCls D) (kf_obj D) (kf_get D) (kf_takes D)) (kf_gat D) (wpAny_call (slot_get (s := { s with toks := s.toks + 1 }) X I (kf_slot D) hv (handed_on hh h)))
theorem lt_K {k : Kd} {m24 : Mt (qualOf "__lt__")} {o1 o2 dx1 dx2 x1 x2 cell : Addr} {oc : Obj} {u1 u2 : Str} {i1 i2 : Int} {t1 t2 t3 t4 : Tok} {n1 n2 : Nat} {vn : Value} {dp un : Nat} {gd : Option (List Code)} {cn : Str} {cs : Scope} {a : Addr} {ccd : Value} {cl : List (Str × Addr)} {outer : List Env} {A₀ : Around} {base h₀ : Heap} {L : Addr} {m : Str → Option Value} {news : List (Addr × Obj)} {s : Shared} {Q E : Value → Shared → Prop}
    (B : Below A₀ base outer h₀) (F : Fr h₀ L s.heap m) (X : (Mine.hd.heap_1 w.params).In h₀) (N : News h₀ L s.heap news) (T : Top p loose mean mg mb h₀) (hk : cs.kind = .function)
    (hneed : ∀ q ∈ k.fr, q ∈ news) (hm : (m24.fc, m24.of) ∈ news) (h24 : (k.f24, oFn k.d24) = (m24.f, m24.fn ⟨(ctk (p := p) (loose := loose) (w := w) (mean := mean) (mg := mg) (mb := mb)).p24, (ctk (p := p) (loose := loose) (w := w) (mean := mean) (mg := mg) (mb := mb)).b24, (ctk (p := p) (loose := loose) (w := w) (mean := mean) (mg := mg) (mb := mb)).s24, (ctk (p := p) (loose := loose) (w := w) (mean := mean) (mg := mg) (mb := mb)).q24, [("mycmp", cell)]⟩ vn))
    (h16 : k.d16.name = "__init__") (hcell : (cell, oc) ∈ news) (hoc : oc.data = .cell (some (.ref 207)))
    (hi1 : (o1, instK k.K dx1 x1) ∈ news) (hd1 : (dx1, emptyDict) ∈ news) (hi2 : (o2, instK k.K dx2 x2) ∈ news) (hd2 : (dx2, emptyDict) ∈ news)
    (hx1 : (x1, listOf #[.str u1 t1, .int i1 t2] n1) ∈ news) (hx2 : (x2, listOf #[.str u2 t3, .int i2 t4] n2) ∈ news) (hd : dp + 20 < recursionLimit) (hu : un + 200 < cLine)
    (ret : ∀ h' tk', Fr h₀ L h' m → News h₀ L h' news → Q (.bool (decide (cmpInt u1 u2 < 0))) { s with heap := h', toks := tk' }) :
    wpAny (model PySem.Challenge.rw_ik0191_01.row.prog w) (ktrTop dp un gd cn cs L a ccd cl outer) (call (.ref k.f24) [.ref o1, .ref o2]) Q E s := by
  obtain ⟨hh, g, d, t, os⟩ := s
  obtain ⟨e1, e2⟩ := Prod.mk.inj h24
  have e3 : k.d24 = fnX "__lt__" _ _ _ _ _ _ _ _ _ _ _ _ := Data.func.inj (congrArg Obj.data e2)
  have x0 : ∀ q ∈ k.fr, hh.get? q.1 = some q.2 := fun q hq => (N q (hneed q hq)).1
  have D := Kd_dis x0 h16 (by rw [e3])
  have hm24 := hneed _ (show (k.f24, oFn k.d24) ∈ k.fr by simp [Kd.fr])
  rw [h24] at hm24
  rw [e1]
  refine wpAny_call (code_nest B F X N T rfl rfl hk hm24 (codeRec_news N hm m24.hd m24.hv) ?hroom (BindsTo.of_eq rfl) ?hloc ?_ rfl rfl rfl ?hcell)
  case hroom => show dp < recursionLimit; (exact Ar.go [_, _] [(.P (.P (.V 0) (.N 20)) (.N 1), .V 1, 1)] 1 (.P (.V 0) (.N 1)) (.V 1) rfl hd)
  case hloc => exact locs rfl
  case hcell => dsimp only [ctk]; decide
  intro gX L1 h3 FGX F3 N3 BX XX TX
  dsimp only [ctk]
  change Fr gX L1 h3 (fun y => List.lookup y [(("other" : Str), Value.ref o2), (("self" : Str), Value.ref o1)]) at F3
  k_fold
  iterate 4 walk1
  refine Call_ ?_
  refine nameX_F N3 rfl hcell hoc ?_
  refine callWith_F ⟨_, _, _, _, F3.keep _ _ (XX 207 _ rfl)⟩ ?_
  refine args_cons ?_
  have x3 : ∀ q ∈ k.fr, h3.get? q.1 = some q.2 := fun q hq => (N3 q (hneed q hq)).1
  have I1 : InstAt h3 o1 (instK k.K dx1 x1) k.K (some emptyDict) := ⟨(N3 _ hi1).1, rfl, rfl, (N3 _ hd1).1⟩
  have I2 : InstAt h3 o2 (instK k.K dx2 x2) k.K (some emptyDict) := ⟨(N3 _ hi2).1, rfl, rfl, (N3 _ hd2).1⟩
  iterate 2 walk1
  refine get_obj (v := .ref x1) D (Kd_In x3) I1 rfl rfl ?_
  refine args_cons ?_
  iterate 2 walk1
  refine get_obj (v := .ref x2) D (Kd_In x3) I2 rfl rfl ?_
  refine args_nil ⟨⟨_, _, _, _, F3.keep _ _ (XX 207 _ rfl)⟩, ?_⟩
  refine spec_use (cmp_spec x1 x2 u1 u2 i1 i2 t1 t2 t3 t4 n1 n2) BX F3 XX N3 TX rfl ?need ?hd ?hu ?_
  case hd => show dp + 1 + 8 < recursionLimit; (exact Ar.go [_, _] [(.P (.P (.V 0) (.N 20)) (.N 1), .V 1, 1)] 1 (.P (.P (.P (.V 0) (.N 1)) (.N 8)) (.N 1)) (.V 1) rfl hd)
  case hu => show un + 3 + 80 < cLine; (exact Ar.go [_, _] [(.P (.P (.V 0) (.N 200)) (.N 1), .V 1, 1)] 1 (.P (.P (.P (.V 0) (.N 3)) (.N 80)) (.N 1)) (.V 1) rfl hu)
  case need =>
    intro q hq
    rcases List.mem_cons.mp hq with rfl | hq
    · exact hx1
    · rcases List.mem_cons.mp hq with rfl | hq
      · exact hx2
      · cases hq
  intro t9 h9 tk9 F9 N9
  simp only [List.nil_append] at N9
  dsimp only
  k_steps
  exact ret _ _ (by assumption) (by assumption)
end Mine
end
section
open PySem PySem.W PyProof.Rows
namespace Mine.Srt
noncomputable def Ok {α : Type} (n : Nat) (f : Nat → Nat → Bool) (R : α → Prop) : KasT α → Prop
  | .ret a => R a
  | .ask i j k => i < n ∧ j < n ∧ Ok n f R (k (f i j))
theorem Ok.bind {α β : Type} {n : Nat} {f : Nat → Nat → Bool} {R : β → Prop} {g : α → KasT β} : ∀ {t : KasT α}, Ok n f (fun a => Ok n f R (g a)) t → Ok n f R (t.bind g)
  | .ret _, h => h
  | .ask _ _ k, h => ⟨h.1, h.2.1, Ok.bind (t := k _) h.2.2⟩
theorem Ok.mono {α : Type} {n : Nat} {f : Nat → Nat → Bool} {R R' : α → Prop} (hr : ∀ a, R a → R' a) : ∀ {t : KasT α}, Ok n f R t → Ok n f R' t
  | .ret _, h => hr _ h
  | .ask _ _ k, h => ⟨h.1, h.2.1, Ok.mono hr (t := k _) h.2.2⟩
theorem Ok.wp {α : Type} {n : Nat} {f : Nat → Nat → Bool} {R : α → Prop} {cmp : Nat → Nat → (Bool → Shared → Prop) → Shared → Prop} {J : Shared → Prop} {Q : α → Shared → Prop}
    (hc : ∀ i j C s, i < n → j < n → J s → (∀ s', J s' → C (f i j) s') → cmp i j C s) (hq : ∀ a s', R a → J s' → Q a s') : ∀ {t : KasT α} {s : Shared}, Ok n f R t → J s → t.kasWp cmp Q s
  | .ret _, s, h, hs => hq _ s h hs
  | .ask i j k, s, h, hs => hc i j _ s h.1 h.2.1 hs fun s' hs' => Ok.wp hc hq (t := k _) h.2.2 hs'
noncomputable abbrev At (p : Array Nat) (x : Nat) : Nat := p.getD x 0
theorem at_eq (p : Array Nat) (x : Nat) : At p x = (p[x]?).getD 0 := Array.getD_eq_getD_getElem? ..
theorem at_rev {p : Array Nat} {i j : Nat} (hj : j ≤ p.size) (x : Nat) : At (kas_rev p i j) x = if i ≤ x ∧ x < j then At p (i + j - 1 - x) else At p x := by
  unfold kas_rev
  rw [at_eq, getElem?_mirror hj _ (by (exact Ar.go [_, _] [(.L 2 (.V 0), .V 1, 1)] 1 (.L 2 (.V 0)) (.V 1) rfl (Nat.mul_div_le _ 2))), at_eq, at_eq]
  by_cases h : i ≤ x ∧ x < j
  · rw [if_pos h]
    by_cases h2 : (i ≤ x ∧ x < i + (j - i) / 2) ∨ (j - (j - i) / 2 ≤ x ∧ x < j)
    · rw [if_pos h2]
    · rw [if_neg h2]
      have : x = i + j - 1 - x := by lia
      rw [← this]
  · rw [if_neg h, if_neg (by lia)]
theorem at_bubble {p : Array Nat} {src : Nat} (hs : src < p.size) (d x : Nat) (hd : d ≤ src) : At (bubble p src d) x = if x = src - d then At p src else if src - d < x ∧ x ≤ src then At p (x - 1) else At p x := by
  rw [at_eq, getElem?_bubble hs d hd, at_eq, at_eq, at_eq]
  repeat' split
  all_goals rfl
section
variable {rk : Nat → Nat} {n : Nat}
noncomputable def Pr (rk : Nat → Nat) (i j : Nat) : Prop := rk i < rk j ∨ (rk i = rk j ∧ i < j)
theorem Pr.trans {i j k : Nat} (h : Pr rk i j) (h' : Pr rk j k) : Pr rk i k := by unfold Pr at *; lia
noncomputable def Le (rk : Nat → Nat) (i j : Nat) : Bool := decide (rk i < rk j)
structure Base (p : Array Nat) (m n : Nat) : Prop where
  size : p.size = n
  le : m ≤ n
  low : ∀ a, a < m → At p a < m
  id : ∀ a, m ≤ a → a < n → At p a = a
  perm : p.Perm (List.range n).toArray
noncomputable def Up (rk : Nat → Nat) (p : Array Nat) (m : Nat) : Prop := ∀ a b, a < b → b < m → Pr rk (At p a) (At p b)
theorem Base.lt {p : Array Nat} {m : Nat} (B : Base p m n) {a : Nat} (h : a < n) : At p a < n := by
  by_cases q : a < m
  · exact Nat.lt_of_lt_of_le (B.low a q) B.le
  · rw [B.id a (by (exact Ar.go [_, _] [(.V 0, .V 1, 1)] 1 (.V 0) (.V 1) rfl (Nat.le_of_not_lt q))) h]; exact h
theorem Base.up {p : Array Nat} {m : Nat} (B : Base p m n) (h : m < n) : Base p (m + 1) n :=
  ⟨B.size, h, fun a ha => by
    by_cases q : a < m
    · exact Nat.lt_succ_of_lt (B.low a q)
    · rw [B.id a (by (exact Ar.go [_, _] [(.V 0, .V 1, 1)] 1 (.V 0) (.V 1) rfl (Nat.le_of_not_lt q))) (by (exact Ar.go [_, _, _] [(.P (.V 2) (.N 1), .V 1, 1), (.P (.V 0) (.N 1), .P (.V 2) (.N 1), 1)] 1 (.P (.V 0) (.N 1)) (.V 1) rfl h ha))]; exact ha, fun a h1 h2 => B.id a (by (exact Ar.go [_, _] [(.P (.V 0) (.N 1), .V 1, 1)] 1 (.V 0) (.V 1) rfl h1)) h2, B.perm⟩
theorem asc_ {p : Array Nat} : ∀ (fu m : Nat), m + fu = n → 1 ≤ m → Base p m n → Up rk p m →
    Ok n (Le rk) (fun m' => m ≤ m' ∧ Base p m' n ∧ Up rk p m' ∧ (m' < n → rk (At p m') < rk (At p (m' - 1)))) (kas_asc p fu m)
  | 0, m, e, h1, B, U => ⟨Nat.le_refl _, B, U, fun h => by (exact (Ar.fal (Ar.go [_, _] [(.V 0, .P (.V 1) (.N 0), 1), (.P (.V 1) (.N 1), .V 0, 1)] 1 (.N 1) (.N 0) rfl (Nat.le_of_eq e.symm) h)).elim)⟩
  | fu + 1, m, e, h1, B, U => by
    refine ⟨B.lt (by (exact Ar.go [_, _, _] [(.P (.V 0) (.P (.V 2) (.N 1)), .V 1, 1)] 1 (.P (.V 0) (.N 1)) (.V 1) rfl (Nat.le_of_eq e))), B.lt (by (exact Ar.go [_, _, _, _] [(.P (.V 2) (.P (.V 3) (.N 1)), .V 1, 1), (.V 0, .V 2, 1)] 1 (.P (.V 0) (.N 1)) (.V 1) rfl (Nat.le_of_eq e) (Nat.sub_le _ _))), ?_⟩
    show Ok n (Le rk) _ (if Le rk (At p m) (At p (m - 1)) = true then _ else _)
    by_cases h : rk (At p m) < rk (At p (m - 1))
    · have : Le rk (At p m) (At p (m - 1)) = true := decide_eq_true h
      rw [this, if_pos rfl]
      exact ⟨Nat.le_refl _, B, U, fun _ => h⟩
    · have : Le rk (At p m) (At p (m - 1)) = false := decide_eq_false h
      rw [this, if_neg Bool.false_ne_true]
      have e1 := B.id m (Nat.le_refl _) (by (exact Ar.go [_, _, _] [(.P (.V 0) (.P (.V 2) (.N 1)), .V 1, 1)] 1 (.P (.V 0) (.N 1)) (.V 1) rfl (Nat.le_of_eq e)))
      have e2 := B.low (m - 1) (by (exact Ar.go [_, _] [(.P (.V 0) (.N 1), .V 1, 1)] 1 (.P (.V 0) (.N 1)) (.V 1) rfl (Ar.dn (Ar.go [_] [(.N 1, .V 0, 1)] 1 (.N 1) (.V 0) rfl h1))))
      have last : Pr rk (At p (m - 1)) (At p m) := by unfold Pr; lia
      refine (asc_ fu (m + 1) (by (exact Nat.le_antisymm (Ar.go [_, _, _] [(.P (.V 0) (.P (.V 1) (.N 1)), .V 2, 1)] 1 (.P (.P (.V 0) (.N 1)) (.V 1)) (.V 2) rfl (Nat.le_of_eq e)) (Ar.go [_, _, _] [(.V 0, .P (.V 1) (.P (.V 2) (.N 1)), 1)] 1 (.V 0) (.P (.P (.V 1) (.N 1)) (.V 2)) rfl (Nat.le_of_eq e.symm)))) (by (exact Ar.go [_] [] 1 (.N 1) (.P (.V 0) (.N 1)) rfl)) (B.up (by (exact Ar.go [_, _, _] [(.P (.V 0) (.P (.V 2) (.N 1)), .V 1, 1)] 1 (.P (.V 0) (.N 1)) (.V 1) rfl (Nat.le_of_eq e)))) fun a b hab hb => ?_).mono fun m' h' => ⟨by (exact Ar.go [_, _] [(.P (.V 0) (.N 1), .V 1, 1)] 1 (.V 0) (.V 1) rfl h'.1), h'.2⟩
      by_cases q : b < m
      · exact U a b hab q
      · obtain rfl : b = m := by (exact Nat.le_antisymm (Ar.go [_, _] [(.P (.V 0) (.N 1), .P (.V 1) (.N 1), 1)] 1 (.V 0) (.V 1) rfl hb) (Ar.go [_, _] [(.V 0, .V 1, 1)] 1 (.V 0) (.V 1) rfl (Nat.le_of_not_lt q)))
        by_cases q2 : a = b - 1
        · rw [q2]; exact last
        · exact (U a (b - 1) (by (exact Ar.go [_, _] [(.P (.V 0) (.N 1), .V 1, 1)] 1 (.P (.V 0) (.N 1)) (.V 1) rfl (Nat.lt_of_le_of_ne (Ar.go [_, _, _] [(.P (.V 0) (.N 1), .V 2, 1), (.V 2, .P (.V 1) (.N 1), 1)] 1 (.V 0) (.V 1) rfl hab (Ar.up _ _)) q2))) (by (exact Ar.go [_, _] [(.P (.V 0) (.N 1), .V 1, 1)] 1 (.P (.V 0) (.N 1)) (.V 1) rfl (Ar.dn (Ar.go [_, _] [(.P (.V 1) (.N 1), .V 0, 1)] 1 (.N 1) (.V 0) rfl hab))))).trans last
theorem Base.rev {p : Array Nat} {m i : Nat} (B : Base p m n) (him : i ≤ m) (hl : ∀ a, i ≤ a → a < m → At p a < m) : Base (kas_rev p i m) m n := by
  have hz := B.size
  have hle := B.le
  refine ⟨by rw [kas_rev_size]; exact B.size, B.le, fun a ha => ?_, fun a h1 h2 => ?_, (mirror_perm _ _ _ _).trans B.perm⟩
  · rw [at_rev (by (exact Ar.go [_, _, _] [(.V 2, .V 1, 1), (.V 0, .V 2, 1)] 1 (.V 0) (.V 1) rfl (Nat.le_of_eq hz.symm) hle))]
    split
    · exact B.low _ (by lia)
    · exact B.low _ ha
  · rw [at_rev (by (exact Ar.go [_, _, _] [(.V 2, .V 1, 1), (.V 0, .V 2, 1)] 1 (.V 0) (.V 1) rfl (Nat.le_of_eq hz.symm) hle)), if_neg (by (exact fun he9 => Ar.fal (Ar.go [_, _] [(.V 0, .V 1, 1), (.P (.V 1) (.N 1), .V 0, 1)] 1 (.N 1) (.N 0) rfl h1 he9.2)))]; exact B.id a h1 h2
noncomputable def Down (rk : Nat → Nat) (p : Array Nat) (m : Nat) : Prop := ∀ a b, a < b → b < m → Pr rk (At p b) (At p a)
structure Ds (rk : Nat → Nat) (p : Array Nat) (m q n : Nat) : Prop where
  base : Base p m n
  hq : q < m
  a : Down rk p (m - (q + 1))
  b : ∀ a b, a < m - (q + 1) → m - (q + 1) ≤ b → b < m → rk (At p b) < rk (At p a)
  c : ∀ b, m - (q + 1) ≤ b → b < m → At p b = b ∧ rk b = rk (m - 1)
theorem Ds.turned {p : Array Nat} {m q : Nat} (D : Ds rk p m q n) : Base (kas_rev p (m - (q + 1)) m) m n ∧ Down rk (kas_rev p (m - (q + 1)) m) m ∧ rk (At (kas_rev p (m - (q + 1)) m) (m - 1)) = rk (m - 1) ∧ ∀ a, a < m → rk (m - 1) ≤ rk (At (kas_rev p (m - (q + 1)) m) a) := by
  have hz := D.base.size
  have hle := D.base.le
  have hq := D.hq
  have get := fun x => at_rev (p := p) (i := m - (q + 1)) (j := m) (by (exact Ar.go [_, _, _] [(.V 2, .V 1, 1), (.V 0, .V 2, 1)] 1 (.V 0) (.V 1) rfl (Nat.le_of_eq hz.symm) hle)) x
  have grp : ∀ a, m - (q + 1) ≤ a → a < m → At (kas_rev p (m - (q + 1)) m) a = m - (q + 1) + m - 1 - a ∧ rk (m - (q + 1) + m - 1 - a) = rk (m - 1) := fun a h1 h2 => by
    rw [get, if_pos ⟨h1, h2⟩]
    have := D.c (m - (q + 1) + m - 1 - a) (by (exact Ar.go [_, _, _, _, _] [(.P (.V 2) (.N 1), .V 3, 1), (.V 4, .P (.V 1) (.V 2), 1), (.P (.V 0) (.V 3), .P (.V 4) (.N 1), 1)] 1 (.V 0) (.V 1) rfl h2 (Ar.up _ _) (Ar.up _ _))) (by (exact Ar.go [_, _, _, _, _] [(.V 2, .V 3, 1), (.P (.V 0) (.V 3), .V 4, 1), (.P (.V 4) (.N 1), .P (.V 2) (.V 1), 1)] 1 (.P (.V 0) (.N 1)) (.V 1) rfl h1 (Ar.dn (Ar.go [_, _, _, _] [(.P (.V 0) (.N 1), .V 2, 1), (.P (.V 3) (.V 2), .P (.V 1) (.N 1), 1)] 1 (.V 0) (.V 1) rfl h2 (Ar.up _ _))) (Ar.dn (Ar.go [_, _, _] [(.P (.V 2) (.N 1), .V 1, 1)] 1 (.N 1) (.P (.V 0) (.V 1)) rfl hq))))
    exact this
  have out : ∀ a, a < m - (q + 1) → At (kas_rev p (m - (q + 1)) m) a = At p a := fun a h => by rw [get, if_neg (by (exact fun he9 => Ar.fal (Ar.go [_, _] [(.P (.V 0) (.N 1), .V 1, 1), (.V 1, .V 0, 1)] 1 (.N 1) (.N 0) rfl h he9.1)))]
  refine ⟨D.base.rev (by (exact Ar.go [_, _] [(.V 0, .V 1, 1)] 1 (.V 0) (.V 1) rfl (Nat.sub_le _ _))) fun a h1 h2 => D.base.low a h2, fun a b hab hb => ?_, ?_, fun a ha => ?_⟩
  · by_cases h1 : b < m - (q + 1)
    · rw [out a (by (exact Ar.go [_, _, _] [(.P (.V 0) (.N 1), .V 2, 1), (.P (.V 2) (.N 1), .V 1, 1)] 1 (.P (.V 0) (.N 1)) (.V 1) rfl hab h1)), out b h1]; exact D.a a b hab h1
    · obtain ⟨e1, e2⟩ := grp b (by (exact Ar.go [_, _] [(.V 0, .V 1, 1)] 1 (.V 0) (.V 1) rfl (Nat.le_of_not_lt h1))) hb
      by_cases h2 : a < m - (q + 1)
      · rw [out a h2, e1]
        have := D.b a (m - (q + 1) + m - 1 - b) h2 (by (exact Ar.go [_, _, _, _, _] [(.P (.V 2) (.N 1), .V 3, 1), (.V 4, .P (.V 1) (.V 2), 1), (.P (.V 0) (.V 3), .P (.V 4) (.N 1), 1)] 1 (.V 0) (.V 1) rfl hb (Ar.up _ _) (Ar.up _ _))) (by (exact Ar.go [_, _, _, _, _] [(.V 2, .V 3, 1), (.P (.V 0) (.V 3), .V 4, 1), (.P (.V 4) (.N 1), .P (.V 2) (.V 1), 1)] 1 (.P (.V 0) (.N 1)) (.V 1) rfl (Nat.le_of_not_lt h1) (Ar.dn (Ar.go [_, _, _, _] [(.P (.V 0) (.N 1), .V 2, 1), (.P (.V 3) (.V 2), .P (.V 1) (.N 1), 1)] 1 (.V 0) (.V 1) rfl hb (Ar.up _ _))) (Ar.dn (Ar.go [_, _, _] [(.P (.V 2) (.N 1), .V 1, 1)] 1 (.N 1) (.P (.V 0) (.V 1)) rfl hq))))
        have e3 := (D.c (m - (q + 1) + m - 1 - b) (by (exact Ar.go [_, _, _, _, _] [(.P (.V 2) (.N 1), .V 3, 1), (.V 4, .P (.V 1) (.V 2), 1), (.P (.V 0) (.V 3), .P (.V 4) (.N 1), 1)] 1 (.V 0) (.V 1) rfl hb (Ar.up _ _) (Ar.up _ _))) (by (exact Ar.go [_, _, _, _, _] [(.V 2, .V 3, 1), (.P (.V 0) (.V 3), .V 4, 1), (.P (.V 4) (.N 1), .P (.V 2) (.V 1), 1)] 1 (.P (.V 0) (.N 1)) (.V 1) rfl (Nat.le_of_not_lt h1) (Ar.dn (Ar.go [_, _, _, _] [(.P (.V 0) (.N 1), .V 2, 1), (.P (.V 3) (.V 2), .P (.V 1) (.N 1), 1)] 1 (.V 0) (.V 1) rfl hb (Ar.up _ _))) (Ar.dn (Ar.go [_, _, _] [(.P (.V 2) (.N 1), .V 1, 1)] 1 (.N 1) (.P (.V 0) (.V 1)) rfl hq))))).1
        rw [e3] at this
        exact .inl this
      · obtain ⟨e3, e4⟩ := grp a (by (exact Ar.go [_, _] [(.V 0, .V 1, 1)] 1 (.V 0) (.V 1) rfl (Nat.le_of_not_lt h2))) (by (exact Ar.go [_, _, _] [(.P (.V 0) (.N 1), .V 2, 1), (.P (.V 2) (.N 1), .V 1, 1)] 1 (.P (.V 0) (.N 1)) (.V 1) rfl hab hb))
        rw [e1, e3]
        exact .inr ⟨e2.trans e4.symm, by (exact Ar.go [_, _, _, _, _] [(.P (.V 2) (.N 1), .V 3, 1), (.V 4, .P (.V 1) (.V 2), 1), (.P (.V 0) (.V 3), .V 4, 1)] 1 (.P (.V 0) (.N 1)) (.V 1) rfl hab (Ar.up _ _) (Ar.dn (Ar.go [_, _, _, _] [(.P (.V 0) (.N 1), .V 2, 1), (.P (.V 3) (.V 2), .P (.V 1) (.N 1), 1)] 1 (.V 0) (.V 1) rfl hb (Ar.up _ _))))⟩
  · obtain ⟨e1, e2⟩ := grp (m - 1) (by (exact Ar.go [_, _, _, _] [(.V 2, .P (.V 1) (.N 1), 1), (.P (.V 0) (.P (.V 3) (.N 1)), .V 2, 1)] 1 (.V 0) (.V 1) rfl (Ar.up _ _) (Ar.dn (Ar.go [_, _] [(.P (.V 0) (.N 1), .V 1, 1)] 1 (.P (.V 0) (.N 1)) (.V 1) rfl hq)))) (by (exact Ar.go [_, _] [(.P (.V 0) (.N 1), .V 1, 1)] 1 (.P (.V 0) (.N 1)) (.V 1) rfl (Ar.dn (Ar.go [_, _] [(.P (.V 1) (.N 1), .V 0, 1)] 1 (.N 1) (.V 0) rfl hq))))
    rw [e1]; exact e2
  · by_cases h2 : a < m - (q + 1)
    · rw [out a h2]
      have := D.b a (m - 1) h2 (by (exact Ar.go [_, _, _, _] [(.V 2, .P (.V 1) (.N 1), 1), (.P (.V 0) (.P (.V 3) (.N 1)), .V 2, 1)] 1 (.V 0) (.V 1) rfl (Ar.up _ _) (Ar.dn (Ar.go [_, _] [(.P (.V 0) (.N 1), .V 1, 1)] 1 (.P (.V 0) (.N 1)) (.V 1) rfl hq)))) (by (exact Ar.go [_, _] [(.P (.V 0) (.N 1), .V 1, 1)] 1 (.P (.V 0) (.N 1)) (.V 1) rfl (Ar.dn (Ar.go [_, _] [(.P (.V 1) (.N 1), .V 0, 1)] 1 (.N 1) (.V 0) rfl hq))))
      rw [(D.c (m - 1) (by (exact Ar.go [_, _, _, _] [(.V 2, .P (.V 1) (.N 1), 1), (.P (.V 0) (.P (.V 3) (.N 1)), .V 2, 1)] 1 (.V 0) (.V 1) rfl (Ar.up _ _) (Ar.dn (Ar.go [_, _] [(.P (.V 0) (.N 1), .V 1, 1)] 1 (.P (.V 0) (.N 1)) (.V 1) rfl hq)))) (by (exact Ar.go [_, _] [(.P (.V 0) (.N 1), .V 1, 1)] 1 (.P (.V 0) (.N 1)) (.V 1) rfl (Ar.dn (Ar.go [_, _] [(.P (.V 1) (.N 1), .V 0, 1)] 1 (.N 1) (.V 0) rfl hq))))).1] at this
      exact Nat.le_of_lt this
    · obtain ⟨e3, e4⟩ := grp a (by (exact Ar.go [_, _] [(.V 0, .V 1, 1)] 1 (.V 0) (.V 1) rfl (Nat.le_of_not_lt h2))) ha
      rw [e3]; exact Nat.le_of_eq e4.symm
theorem Ds.next {p : Array Nat} {m : Nat} (B : Base p m n) (Dn : Down rk p m) (hm : m < n) (h1 : 1 ≤ m) (lo : ∀ a, a < m → rk m < rk (At p a)) : Ds rk p (m + 1) 0 n := by
  have e := B.id m (Nat.le_refl _) hm
  refine ⟨B.up hm, by (exact Ar.go [_] [] 1 (.P (.N 0) (.N 1)) (.P (.V 0) (.N 1)) rfl), fun a b hab hb => Dn a b hab (by (exact Ar.go [_, _, _] [(.P (.V 0) (.N 1), .V 2, 1), (.P (.V 2) (.P (.N 0) (.N 1)), .P (.V 1) (.N 1), 1)] 1 (.P (.V 0) (.N 1)) (.V 1) rfl hb (Ar.dn (Ar.go [_] [] 1 (.P (.N 0) (.N 1)) (.P (.V 0) (.N 1)) rfl)))), fun a b ha hb hb2 => ?_, fun b hb hb2 => ?_⟩
  · obtain rfl : b = m := by (exact Nat.le_antisymm (Ar.go [_, _] [(.P (.V 0) (.N 1), .P (.V 1) (.N 1), 1)] 1 (.V 0) (.V 1) rfl hb2) (Ar.go [_, _, _] [(.V 2, .V 1, 1), (.P (.V 0) (.N 1), .P (.V 2) (.P (.N 0) (.N 1)), 1)] 1 (.V 0) (.V 1) rfl hb (Ar.up _ _)))
    rw [e]; exact lo a (by (exact Ar.go [_, _, _] [(.P (.V 0) (.N 1), .V 2, 1), (.V 2, .V 1, 1)] 1 (.P (.V 0) (.N 1)) (.V 1) rfl ha hb))
  · obtain rfl : b = m := by (exact Nat.le_antisymm (Ar.go [_, _] [(.P (.V 0) (.N 1), .P (.V 1) (.N 1), 1)] 1 (.V 0) (.V 1) rfl hb2) (Ar.go [_, _, _] [(.V 2, .V 1, 1), (.P (.V 0) (.N 1), .P (.V 2) (.P (.N 0) (.N 1)), 1)] 1 (.V 0) (.V 1) rfl hb (Ar.up _ _)))
    exact ⟨e, by congr 1⟩
theorem rev_one {p : Array Nat} {m : Nat} (hm : m ≤ p.size) (h1 : 1 ≤ m) : kas_rev p (m - 1) m = p := by
  have : (m - (m - 1)) / 2 = 0 := by (exact Nat.le_antisymm (Ar.go [_, _, _, _] [(.L 2 (.V 0), .V 1, 1), (.V 2, .P (.V 3) (.N 1), 1), (.P (.V 1) (.V 3), .V 2, 1)] 2 (.V 0) (.N 0) rfl (Nat.mul_div_le _ 2) (Ar.up _ _) (Ar.dn (Ar.go [_, _] [(.V 0, .V 1, 1)] 1 (.V 0) (.V 1) rfl (Nat.sub_le _ _)))) (Ar.go [_] [] 1 (.N 0) (.V 0) rfl))
  unfold kas_rev
  rw [this]; rfl
theorem desc_ : ∀ (fu : Nat) (p : Array Nat) (m q : Nat), m + fu = n → 1 ≤ m → Ds rk p m q n → Ok n (Le rk) (fun r => 1 ≤ r.2.1 ∧ Ds rk r.1 r.2.1 r.2.2 n) (kas_desc fu p m q)
  | 0, p, m, q, e, h1, D => ⟨h1, D⟩
  | fu + 1, p, m, q, e, h1, D => by
    have B := D.base
    have e1 := B.id m (Nat.le_refl _) (by (exact Ar.go [_, _, _] [(.P (.V 0) (.P (.V 2) (.N 1)), .V 1, 1)] 1 (.P (.V 0) (.N 1)) (.V 1) rfl (Nat.le_of_eq e)))
    have e2 := D.c (m - 1) (by have := D.hq; (exact Ar.go [_, _, _, _] [(.V 2, .P (.V 1) (.N 1), 1), (.P (.V 0) (.P (.V 3) (.N 1)), .V 2, 1)] 1 (.V 0) (.V 1) rfl (Ar.up _ _) (Ar.dn (Ar.go [_, _] [(.P (.V 0) (.N 1), .V 1, 1)] 1 (.P (.V 0) (.N 1)) (.V 1) rfl this)))) (by (exact Ar.go [_, _] [(.P (.V 0) (.N 1), .V 1, 1)] 1 (.P (.V 0) (.N 1)) (.V 1) rfl (Ar.dn (Ar.go [_] [(.N 1, .V 0, 1)] 1 (.N 1) (.V 0) rfl h1))))
    refine ⟨B.lt (by (exact Ar.go [_, _, _] [(.P (.V 0) (.P (.V 2) (.N 1)), .V 1, 1)] 1 (.P (.V 0) (.N 1)) (.V 1) rfl (Nat.le_of_eq e))), B.lt (by (exact Ar.go [_, _, _, _] [(.P (.V 2) (.P (.V 3) (.N 1)), .V 1, 1), (.V 0, .V 2, 1)] 1 (.P (.V 0) (.N 1)) (.V 1) rfl (Nat.le_of_eq e) (Nat.sub_le _ _))), ?_⟩
    show Ok n (Le rk) _ (if Le rk (At p m) (At p (m - 1)) = true then _ else _)
    by_cases h : rk m < rk (m - 1)
    · have : Le rk (At p m) (At p (m - 1)) = true := by rw [e1, e2.1]; exact decide_eq_true h
      rw [this, if_pos rfl]
      obtain ⟨B', Dn, t1, t2⟩ := D.turned
      by_cases hq : q > 0
      · rw [if_pos hq]
        exact desc_ fu _ (m + 1) 0 (by (exact Nat.le_antisymm (Ar.go [_, _, _] [(.P (.V 0) (.P (.V 1) (.N 1)), .V 2, 1)] 1 (.P (.P (.V 0) (.N 1)) (.V 1)) (.V 2) rfl (Nat.le_of_eq e)) (Ar.go [_, _, _] [(.V 0, .P (.V 1) (.P (.V 2) (.N 1)), 1)] 1 (.V 0) (.P (.P (.V 1) (.N 1)) (.V 2)) rfl (Nat.le_of_eq e.symm)))) (by (exact Ar.go [_] [] 1 (.N 1) (.P (.V 0) (.N 1)) rfl)) (Ds.next B' Dn (by (exact Ar.go [_, _, _] [(.P (.V 0) (.P (.V 2) (.N 1)), .V 1, 1)] 1 (.P (.V 0) (.N 1)) (.V 1) rfl (Nat.le_of_eq e))) h1 fun a ha => Nat.lt_of_lt_of_le h (t2 a ha))
      · rw [if_neg hq]
        obtain rfl : q = 0 := by (exact Nat.le_antisymm (Ar.go [_] [(.V 0, .N 0, 1)] 1 (.V 0) (.N 0) rfl (Nat.le_of_not_lt hq)) (Ar.go [_] [] 1 (.N 0) (.V 0) rfl))
        rw [rev_one (by have := B.size; (exact Ar.go [_, _, _, _] [(.P (.V 0) (.P (.V 2) (.N 1)), .V 3, 1), (.V 3, .V 1, 1)] 1 (.V 0) (.V 1) rfl (Nat.le_of_eq e) (Nat.le_of_eq this.symm))) h1] at B' Dn t2
        exact desc_ fu _ (m + 1) 0 (by (exact Nat.le_antisymm (Ar.go [_, _, _] [(.P (.V 0) (.P (.V 1) (.N 1)), .V 2, 1)] 1 (.P (.P (.V 0) (.N 1)) (.V 1)) (.V 2) rfl (Nat.le_of_eq e)) (Ar.go [_, _, _] [(.V 0, .P (.V 1) (.P (.V 2) (.N 1)), 1)] 1 (.V 0) (.P (.P (.V 1) (.N 1)) (.V 2)) rfl (Nat.le_of_eq e.symm)))) (by (exact Ar.go [_] [] 1 (.N 1) (.P (.V 0) (.N 1)) rfl)) (Ds.next B' Dn (by (exact Ar.go [_, _, _] [(.P (.V 0) (.P (.V 2) (.N 1)), .V 1, 1)] 1 (.P (.V 0) (.N 1)) (.V 1) rfl (Nat.le_of_eq e))) h1 fun a ha => Nat.lt_of_lt_of_le h (t2 a ha))
    · have : Le rk (At p m) (At p (m - 1)) = false := by rw [e1, e2.1]; exact decide_eq_false h
      rw [this, if_neg Bool.false_ne_true]
      refine ⟨B.lt (by (exact Ar.go [_, _, _, _] [(.P (.V 2) (.P (.V 3) (.N 1)), .V 1, 1), (.V 0, .V 2, 1)] 1 (.P (.V 0) (.N 1)) (.V 1) rfl (Nat.le_of_eq e) (Nat.sub_le _ _))), B.lt (by (exact Ar.go [_, _, _] [(.P (.V 0) (.P (.V 2) (.N 1)), .V 1, 1)] 1 (.P (.V 0) (.N 1)) (.V 1) rfl (Nat.le_of_eq e))), ?_⟩
      show Ok n (Le rk) _ (if Le rk (At p (m - 1)) (At p m) = true then _ else _)
      by_cases h' : rk (m - 1) < rk m
      · have : Le rk (At p (m - 1)) (At p m) = true := by rw [e1, e2.1]; exact decide_eq_true h'
        rw [this, if_pos rfl]
        exact ⟨h1, D⟩
      · have : Le rk (At p (m - 1)) (At p m) = false := by rw [e1, e2.1]; exact decide_eq_false h'
        rw [this, if_neg Bool.false_ne_true]
        have hrk : rk m = rk (m - 1) := by (exact Nat.le_antisymm (Ar.go [_, _] [(.V 0, .V 1, 1)] 1 (.V 0) (.V 1) rfl (Nat.le_of_not_lt h')) (Ar.go [_, _] [(.V 0, .V 1, 1)] 1 (.V 0) (.V 1) rfl (Nat.le_of_not_lt h)))
        have hq := D.hq
        have c1 : m + 1 - (q + 1 + 1) = m - (q + 1) := by (exact Nat.le_antisymm (Ar.go [_, _, _, _] [(.V 2, .P (.V 1) (.P (.V 3) (.N 1)), 1), (.P (.V 0) (.P (.P (.V 3) (.N 1)) (.N 1)), .P (.V 2) (.N 1), 1)] 1 (.V 0) (.V 1) rfl (Ar.up _ _) (Ar.dn (Ar.go [_, _] [(.P (.V 0) (.N 1), .V 1, 1)] 1 (.P (.P (.V 0) (.N 1)) (.N 1)) (.P (.V 1) (.N 1)) rfl hq))) (Ar.go [_, _, _, _] [(.P (.V 2) (.N 1), .P (.V 1) (.P (.P (.V 3) (.N 1)) (.N 1)), 1), (.P (.V 0) (.P (.V 3) (.N 1)), .V 2, 1)] 1 (.V 0) (.V 1) rfl (Ar.up _ _) (Ar.dn (Ar.go [_, _] [(.P (.V 0) (.N 1), .V 1, 1)] 1 (.P (.V 0) (.N 1)) (.V 1) rfl hq))))
        refine desc_ fu p (m + 1) (q + 1) (by (exact Nat.le_antisymm (Ar.go [_, _, _] [(.P (.V 0) (.P (.V 1) (.N 1)), .V 2, 1)] 1 (.P (.P (.V 0) (.N 1)) (.V 1)) (.V 2) rfl (Nat.le_of_eq e)) (Ar.go [_, _, _] [(.V 0, .P (.V 1) (.P (.V 2) (.N 1)), 1)] 1 (.V 0) (.P (.P (.V 1) (.N 1)) (.V 2)) rfl (Nat.le_of_eq e.symm)))) (by (exact Ar.go [_] [] 1 (.N 1) (.P (.V 0) (.N 1)) rfl)) ⟨B.up (by (exact Ar.go [_, _, _] [(.P (.V 0) (.P (.V 2) (.N 1)), .V 1, 1)] 1 (.P (.V 0) (.N 1)) (.V 1) rfl (Nat.le_of_eq e))), by (exact Ar.go [_, _] [(.P (.V 0) (.N 1), .V 1, 1)] 1 (.P (.P (.V 0) (.N 1)) (.N 1)) (.P (.V 1) (.N 1)) rfl hq), ?_, fun a b ha hb hb2 => ?_, fun b hb hb2 => ?_⟩
        · rw [c1]; exact D.a
        · rw [c1] at ha hb
          by_cases hbm : b < m
          · exact D.b a b ha hb hbm
          · obtain rfl : b = m := by (exact Nat.le_antisymm (Ar.go [_, _] [(.P (.V 0) (.N 1), .P (.V 1) (.N 1), 1)] 1 (.V 0) (.V 1) rfl hb2) (Ar.go [_, _] [(.V 0, .V 1, 1)] 1 (.V 0) (.V 1) rfl (Nat.le_of_not_lt hbm)))
            have := D.b a (b - 1) ha (by (exact Ar.go [_, _, _, _] [(.V 2, .P (.V 1) (.N 1), 1), (.P (.V 0) (.P (.V 3) (.N 1)), .V 2, 1)] 1 (.V 0) (.V 1) rfl (Ar.up _ _) (Ar.dn (Ar.go [_, _] [(.P (.V 0) (.N 1), .V 1, 1)] 1 (.P (.V 0) (.N 1)) (.V 1) rfl hq)))) (by (exact Ar.go [_, _] [(.P (.V 0) (.N 1), .V 1, 1)] 1 (.P (.V 0) (.N 1)) (.V 1) rfl (Ar.dn (Ar.go [_] [(.N 1, .V 0, 1)] 1 (.N 1) (.V 0) rfl h1))))
            rw [e2.1] at this
            rw [e1, hrk]; exact this
        · rw [c1] at hb
          by_cases hbm : b < m
          · have := D.c b hb hbm
            exact ⟨this.1, by rw [this.2]; show rk (m - 1) = rk (m + 1 - 1); rw [Nat.add_sub_cancel]; exact hrk.symm⟩
          · obtain rfl : b = m := by (exact Nat.le_antisymm (Ar.go [_, _] [(.P (.V 0) (.N 1), .P (.V 1) (.N 1), 1)] 1 (.V 0) (.V 1) rfl hb2) (Ar.go [_, _] [(.V 0, .V 1, 1)] 1 (.V 0) (.V 1) rfl (Nat.le_of_not_lt hbm)))
            exact ⟨e1, by rw [Nat.add_sub_cancel]⟩
theorem tail3_ {p : Array Nat} {m : Nat} (B : Base p m n) (Dn : Down rk p m) (h1 : 1 ≤ m) : Ok n (Le rk) (fun r => 1 ≤ r.1 ∧ Base r.2 r.1 n ∧ Up rk r.2 r.1) (kas_tail3 m n p) := by
  have hz := B.size
  have hle := B.le
  have B' := B.rev (i := 0) (by (exact Ar.go [_] [] 1 (.N 0) (.V 0) rfl)) fun a _ h => B.low a h
  have U : Up rk (kas_rev p 0 m) m := fun a b hab hb => by
    rw [at_rev (by (exact Ar.go [_, _, _] [(.V 2, .V 1, 1), (.V 0, .V 2, 1)] 1 (.V 0) (.V 1) rfl (Nat.le_of_eq hz.symm) hle)), at_rev (by (exact Ar.go [_, _, _] [(.V 2, .V 1, 1), (.V 0, .V 2, 1)] 1 (.V 0) (.V 1) rfl (Nat.le_of_eq hz.symm) hle)), if_pos (by (exact ⟨Ar.go [_] [] 1 (.N 0) (.V 0) rfl, Ar.go [_, _, _] [(.P (.V 0) (.N 1), .V 2, 1), (.P (.V 2) (.N 1), .V 1, 1)] 1 (.P (.V 0) (.N 1)) (.V 1) rfl hab hb⟩)), if_pos (by (exact ⟨Ar.go [_] [] 1 (.N 0) (.V 0) rfl, Ar.go [_, _] [(.P (.V 0) (.N 1), .V 1, 1)] 1 (.P (.V 0) (.N 1)) (.V 1) rfl hb⟩))]
    exact Dn _ _ (by (exact Ar.go [_, _, _, _, _] [(.P (.V 2) (.N 1), .V 3, 1), (.V 4, .P (.V 1) (.V 2), 1), (.P (.V 0) (.V 3), .V 4, 1)] 1 (.P (.V 0) (.N 1)) (.V 1) rfl hab (Ar.up _ _) (Ar.dn (Ar.go [_, _, _] [(.P (.V 0) (.N 1), .V 2, 1), (.P (.N 0) (.V 2), .P (.V 1) (.N 1), 1)] 1 (.V 0) (.V 1) rfl hb (Ar.up _ _))))) (by (exact Ar.go [_, _, _] [(.V 0, .V 2, 1), (.P (.V 2) (.N 1), .P (.N 0) (.V 1), 1)] 1 (.P (.V 0) (.N 1)) (.V 1) rfl (Nat.sub_le _ _) (Ar.dn (Ar.go [_] [(.N 1, .V 0, 1)] 1 (.N 1) (.P (.N 0) (.V 0)) rfl h1))))
  exact Ok.bind ((asc_ (n - m) m (by (exact Nat.le_antisymm (Ar.go [_, _, _] [(.P (.V 1) (.V 0), .V 2, 1)] 1 (.P (.V 0) (.V 1)) (.V 2) rfl (Ar.dn (Ar.go [_, _] [(.V 0, .V 1, 1)] 1 (.V 0) (.V 1) rfl hle))) (Ar.go [_, _, _] [(.V 0, .P (.V 2) (.V 1), 1)] 1 (.V 0) (.P (.V 1) (.V 2)) rfl (Ar.up _ _)))) h1 B' U).mono fun m' h' => ⟨by (exact Ar.go [_, _] [(.N 1, .V 1, 1), (.V 1, .V 0, 1)] 1 (.N 1) (.V 0) rfl h1 h'.1), h'.2.1, h'.2.2.1⟩)
theorem descPart_ {p : Array Nat} {m : Nat} (B : Base p m n) (Dn : Down rk p m) (h1 : 1 ≤ m) (hm : m < n) (lo : ∀ a, a < m → rk m < rk (At p a)) : Ok n (Le rk) (fun r => 1 ≤ r.1 ∧ Base r.2 r.1 n ∧ Up rk r.2 r.1) (kas_descPart m n p) := by
  refine Ok.bind ((desc_ (n - (m + 1)) p (m + 1) 0 (by (exact Nat.le_antisymm (Ar.go [_, _, _] [(.P (.V 1) (.P (.V 0) (.N 1)), .V 2, 1)] 1 (.P (.P (.V 0) (.N 1)) (.V 1)) (.V 2) rfl (Ar.dn (Ar.go [_, _] [(.P (.V 0) (.N 1), .V 1, 1)] 1 (.P (.V 0) (.N 1)) (.V 1) rfl hm))) (Ar.go [_, _, _] [(.V 0, .P (.V 2) (.P (.V 1) (.N 1)), 1)] 1 (.V 0) (.P (.P (.V 1) (.N 1)) (.V 2)) rfl (Ar.up _ _)))) (by (exact Ar.go [_] [] 1 (.N 1) (.P (.V 0) (.N 1)) rfl)) (Ds.next B Dn hm h1 lo)).mono ?_)
  rintro ⟨p', m', q'⟩ ⟨h1', D⟩
  dsimp only at h1' D ⊢
  obtain ⟨B', Dn', _, _⟩ := D.turned
  by_cases hq : q' > 0
  · rw [if_pos hq]; exact tail3_ B' Dn' h1'
  · rw [if_neg hq]
    obtain rfl : q' = 0 := by (exact Nat.le_antisymm (Ar.go [_] [(.V 0, .N 0, 1)] 1 (.V 0) (.N 0) rfl (Nat.le_of_not_lt hq)) (Ar.go [_] [] 1 (.N 0) (.V 0) rfl))
    rw [rev_one (by have := D.base.size; have := D.base.le; lia) h1'] at B' Dn'
    exact tail3_ B' Dn' h1'
theorem count_ {p : Array Nat} (hs : p.size = n) (hid : ∀ a, a < n → At p a = a) (hp : p.Perm (List.range n).toArray) (h1 : 1 ≤ n) : Ok n (Le rk) (fun r => 1 ≤ r.1 ∧ Base r.2 r.1 n ∧ Up rk r.2 r.1) (kas_count n p) := by
  have B0 : Base p 1 n := ⟨hs, h1, fun a ha => by rw [hid a (by (exact Ar.go [_, _] [(.N 1, .V 1, 1), (.P (.V 0) (.N 1), .N 1, 1)] 1 (.P (.V 0) (.N 1)) (.V 1) rfl h1 ha))]; exact ha, fun a _ h => hid a h, hp⟩
  refine Ok.bind ((asc_ (n - 1) 1 (by (exact Nat.le_antisymm (Ar.go [_, _] [(.P (.V 0) (.N 1), .V 1, 1)] 1 (.P (.N 1) (.V 0)) (.V 1) rfl (Ar.dn (Ar.go [_] [(.N 1, .V 0, 1)] 1 (.N 1) (.V 0) rfl h1))) (Ar.go [_, _] [(.V 0, .P (.V 1) (.N 1), 1)] 1 (.V 0) (.P (.N 1) (.V 1)) rfl (Ar.up _ _)))) (Nat.le_refl _) B0 fun a b hab hb => by lia).mono fun m h => ?_)
  obtain ⟨hm1, B, U, stop⟩ := h
  have hle := B.le
  by_cases e : m = n
  · subst e
    rw [if_pos (beq_self_eq_true _)]
    exact ⟨hm1, B, U⟩
  · rw [if_neg (by simpa using e)]
    have st := stop (by (exact Ar.go [_, _] [(.P (.V 0) (.N 1), .V 1, 1)] 1 (.P (.V 0) (.N 1)) (.V 1) rfl (Nat.lt_of_le_of_ne (Ar.go [_, _] [(.V 0, .V 1, 1)] 1 (.V 0) (.V 1) rfl hle) e)))
    rw [hid m (by (exact Ar.go [_, _] [(.P (.V 0) (.N 1), .V 1, 1)] 1 (.P (.V 0) (.N 1)) (.V 1) rfl (Nat.lt_of_le_of_ne (Ar.go [_, _] [(.V 0, .V 1, 1)] 1 (.V 0) (.V 1) rfl hle) e))), hid (m - 1) (by (exact Ar.go [_, _, _] [(.V 2, .V 1, 1), (.P (.V 0) (.N 1), .V 2, 1)] 1 (.P (.V 0) (.N 1)) (.V 1) rfl hle (Ar.dn (Ar.go [_] [(.N 1, .V 0, 1)] 1 (.N 1) (.V 0) rfl hm1))))] at st
    have part : (∀ a, a < m → rk a = rk (m - 1)) → Ok n (Le rk) (fun r : Nat × Array Nat => 1 ≤ r.1 ∧ Base r.2 r.1 n ∧ Up rk r.2 r.1) (kas_descPart m n (kas_rev p 0 m)) := fun eq => by
      have get : ∀ a, a < m → At (kas_rev p 0 m) a = m - 1 - a := fun a ha => by
        rw [at_rev (by (exact Ar.go [_, _, _] [(.V 2, .V 1, 1), (.V 0, .V 2, 1)] 1 (.V 0) (.V 1) rfl (Nat.le_of_eq hs.symm) hle)), if_pos (by (exact ⟨Ar.go [_] [] 1 (.N 0) (.V 0) rfl, Ar.go [_, _] [(.P (.V 0) (.N 1), .V 1, 1)] 1 (.P (.V 0) (.N 1)) (.V 1) rfl ha⟩)), hid _ (by (exact Ar.go [_, _, _, _] [(.V 2, .V 1, 1), (.V 0, .V 3, 1), (.P (.V 3) (.N 1), .P (.N 0) (.V 2), 1)] 1 (.P (.V 0) (.N 1)) (.V 1) rfl hle (Nat.sub_le _ _) (Ar.dn (Ar.go [_] [(.N 1, .V 0, 1)] 1 (.N 1) (.P (.N 0) (.V 0)) rfl hm1))))]; (exact Nat.le_antisymm (Ar.go [_, _, _, _, _, _] [(.V 2, .P (.V 1) (.V 3), 1), (.V 4, .P (.V 2) (.N 1), 1), (.P (.V 0) (.V 3), .V 5, 1), (.P (.V 5) (.N 1), .P (.N 0) (.V 4), 1)] 1 (.V 0) (.V 1) rfl (Ar.up _ _) (Ar.up _ _) (Ar.dn (Ar.go [_, _, _] [(.P (.V 0) (.N 1), .V 2, 1), (.P (.N 0) (.V 2), .P (.V 1) (.N 1), 1)] 1 (.V 0) (.V 1) rfl ha (Ar.up _ _))) (Ar.dn (Ar.go [_] [(.N 1, .V 0, 1)] 1 (.N 1) (.P (.N 0) (.V 0)) rfl hm1))) (Ar.go [_, _, _, _, _, _] [(.V 2, .P (.V 1) (.V 3), 1), (.P (.N 0) (.V 4), .P (.V 2) (.N 1), 1), (.P (.V 0) (.V 3), .V 5, 1), (.P (.V 5) (.N 1), .V 4, 1)] 1 (.V 0) (.V 1) rfl (Ar.up _ _) (Ar.up _ _) (Ar.dn (Ar.go [_, _, _] [(.P (.V 0) (.N 1), .V 2, 1), (.V 2, .P (.V 1) (.N 1), 1)] 1 (.V 0) (.V 1) rfl ha (Ar.up _ _))) (Ar.dn (Ar.go [_] [(.N 1, .V 0, 1)] 1 (.N 1) (.V 0) rfl hm1))))
      refine descPart_ (B.rev (i := 0) (by (exact Ar.go [_] [] 1 (.N 0) (.V 0) rfl)) fun a _ h => B.low a h) (fun a b hab hb => ?_) hm1 (by (exact Ar.go [_, _] [(.P (.V 0) (.N 1), .V 1, 1)] 1 (.P (.V 0) (.N 1)) (.V 1) rfl (Nat.lt_of_le_of_ne (Ar.go [_, _] [(.V 0, .V 1, 1)] 1 (.V 0) (.V 1) rfl hle) e))) fun a ha => ?_
      · rw [get a (by (exact Ar.go [_, _, _] [(.P (.V 0) (.N 1), .V 2, 1), (.P (.V 2) (.N 1), .V 1, 1)] 1 (.P (.V 0) (.N 1)) (.V 1) rfl hab hb)), get b hb]
        exact .inr ⟨(eq _ (by (exact Ar.go [_, _, _] [(.V 0, .V 2, 1), (.P (.V 2) (.N 1), .V 1, 1)] 1 (.P (.V 0) (.N 1)) (.V 1) rfl (Nat.sub_le _ _) (Ar.dn (Ar.go [_] [(.N 1, .V 0, 1)] 1 (.N 1) (.V 0) rfl hm1))))).trans (eq _ (by (exact Ar.go [_, _, _] [(.V 0, .V 2, 1), (.P (.V 2) (.N 1), .V 1, 1)] 1 (.P (.V 0) (.N 1)) (.V 1) rfl (Nat.sub_le _ _) (Ar.dn (Ar.go [_] [(.N 1, .V 0, 1)] 1 (.N 1) (.V 0) rfl hm1))))).symm, by (exact Ar.go [_, _, _, _, _] [(.P (.V 2) (.N 1), .V 3, 1), (.V 4, .P (.V 1) (.V 2), 1), (.P (.V 0) (.V 3), .V 4, 1)] 1 (.P (.V 0) (.N 1)) (.V 1) rfl hab (Ar.up _ _) (Ar.dn (Ar.go [_, _, _] [(.P (.V 0) (.N 1), .V 2, 1), (.V 2, .P (.V 1) (.N 1), 1)] 1 (.V 0) (.V 1) rfl hb (Ar.up _ _))))⟩
      · rw [get a ha, eq (m - 1 - a) (by (exact Ar.go [_, _, _] [(.V 0, .V 2, 1), (.P (.V 2) (.N 1), .V 1, 1)] 1 (.P (.V 0) (.N 1)) (.V 1) rfl (Nat.sub_le _ _) (Ar.dn (Ar.go [_] [(.N 1, .V 0, 1)] 1 (.N 1) (.V 0) rfl hm1))))]; exact st
    by_cases h2 : m > 1
    · rw [if_pos h2]
      refine ⟨B.lt (by (exact Ar.go [_] [(.N 1, .V 0, 1)] 1 (.P (.N 0) (.N 1)) (.V 0) rfl h1)), B.lt (by (exact Ar.go [_, _, _] [(.V 2, .V 1, 1), (.P (.V 0) (.N 1), .V 2, 1)] 1 (.P (.V 0) (.N 1)) (.V 1) rfl hle (Ar.dn (Ar.go [_] [(.P (.N 1) (.N 1), .V 0, 1)] 2 (.N 1) (.V 0) rfl h2)))), ?_⟩
      show Ok n (Le rk) _ (if Le rk (At p 0) (At p (m - 1)) = true then _ else _)
      by_cases h : rk (At p 0) < rk (At p (m - 1))
      · have : Le rk (At p 0) (At p (m - 1)) = true := decide_eq_true h
        rw [this, if_pos rfl]
        exact ⟨hm1, B, U⟩
      · have : Le rk (At p 0) (At p (m - 1)) = false := decide_eq_false h
        rw [this, if_neg Bool.false_ne_true]
        rw [hid 0 (by (exact Ar.go [_] [(.N 1, .V 0, 1)] 1 (.P (.N 0) (.N 1)) (.V 0) rfl h1)), hid (m - 1) (by (exact Ar.go [_, _, _] [(.V 2, .V 1, 1), (.P (.V 0) (.N 1), .V 2, 1)] 1 (.P (.V 0) (.N 1)) (.V 1) rfl hle (Ar.dn (Ar.go [_] [(.P (.N 1) (.N 1), .V 0, 1)] 2 (.N 1) (.V 0) rfl h2))))] at h
        refine part fun a ha => ?_
        have up : ∀ a b, a < b → b < m → rk a ≤ rk b := fun a b hab hb => by
          have := U a b hab hb
          rw [hid a (by (exact Ar.go [_, _, _, _] [(.V 2, .V 1, 1), (.P (.V 0) (.N 1), .V 3, 1), (.P (.V 3) (.N 1), .V 2, 1)] 1 (.P (.V 0) (.N 1)) (.V 1) rfl hle hab hb)), hid b (by (exact Ar.go [_, _, _] [(.V 2, .V 1, 1), (.P (.V 0) (.N 1), .V 2, 1)] 1 (.P (.V 0) (.N 1)) (.V 1) rfl hle hb))] at this
          unfold Pr at this; lia
        have u1 : rk 0 ≤ rk a := by
          by_cases q : a = 0
          · rw [q]; exact Nat.le_refl _
          · exact up 0 a (by (exact Ar.go [_] [(.P (.N 0) (.N 1), .V 0, 1)] 1 (.P (.N 0) (.N 1)) (.V 0) rfl (Nat.lt_of_le_of_ne (Ar.go [_] [] 1 (.N 0) (.V 0) rfl) (Ne.symm q)))) ha
        have u2 : rk a ≤ rk (m - 1) := by
          by_cases q : a = m - 1
          · rw [q]; exact Nat.le_refl _
          · exact up a (m - 1) (by (exact Ar.go [_, _] [(.P (.V 0) (.N 1), .V 1, 1)] 1 (.P (.V 0) (.N 1)) (.V 1) rfl (Nat.lt_of_le_of_ne (Ar.go [_, _, _] [(.P (.V 0) (.N 1), .V 2, 1), (.V 2, .P (.V 1) (.N 1), 1)] 1 (.V 0) (.V 1) rfl ha (Ar.up _ _)) q))) (by (exact Ar.go [_, _] [(.P (.V 0) (.N 1), .V 1, 1)] 1 (.P (.V 0) (.N 1)) (.V 1) rfl (Ar.dn (Ar.go [_] [(.P (.N 1) (.N 1), .V 0, 1)] 2 (.N 1) (.V 0) rfl h2))))
        (exact Nat.le_antisymm (Ar.go [_, _] [(.V 0, .V 1, 1)] 1 (.V 0) (.V 1) rfl u2) (Ar.go [_, _, _] [(.V 0, .V 2, 1), (.V 2, .V 1, 1)] 1 (.V 0) (.V 1) rfl (Nat.le_of_not_lt h) u1))
    · rw [if_neg h2]
      obtain rfl : m = 1 := by (exact Nat.le_antisymm (Ar.go [_] [(.V 0, .N 1, 1)] 1 (.V 0) (.N 1) rfl (Nat.le_of_not_lt h2)) (Ar.go [_] [(.N 1, .V 0, 1)] 1 (.N 1) (.V 0) rfl hm1))
      exact part fun a ha => by
        obtain rfl : a = 0 := by (exact Nat.le_antisymm (Ar.go [_] [(.P (.V 0) (.N 1), .N 1, 1)] 1 (.V 0) (.N 0) rfl ha) (Ar.go [_] [] 1 (.N 0) (.V 0) rfl))
        rfl
theorem place_ {p : Array Nat} {k : Nat} (B : Base p k n) (U : Up rk p k) (hk : k < n) : ∀ (fu l r : Nat), r ≤ l + fu → l ≤ r → r ≤ k → (∀ a, a < l → rk (At p a) ≤ rk (At p k)) → (∀ a, r ≤ a → a < k → rk (At p k) < rk (At p a)) →
    Ok n (Le rk) (fun l' => l' ≤ k ∧ (∀ a, a < l' → rk (At p a) ≤ rk (At p k)) ∧ ∀ a, l' ≤ a → a < k → rk (At p k) < rk (At p a)) (kas_place p k fu l r)
  | 0, l, r, h1, h2, h3, lo, hi => ⟨by (exact Ar.go [_, _, _] [(.V 0, .V 2, 1), (.V 2, .V 1, 1)] 1 (.V 0) (.V 1) rfl h2 h3), lo, fun a h => hi a (by (exact Ar.go [_, _, _] [(.V 0, .P (.V 2) (.N 0), 1), (.V 2, .V 1, 1)] 1 (.V 0) (.V 1) rfl h1 h))⟩
  | fu + 1, l, r, h1, h2, h3, lo, hi => by
    show Ok n (Le rk) _ (if l ≥ r then _ else _)
    by_cases h : l ≥ r
    · rw [if_pos h]; exact ⟨by (exact Ar.go [_, _, _] [(.V 0, .V 2, 1), (.V 2, .V 1, 1)] 1 (.V 0) (.V 1) rfl h2 h3), lo, fun a h => hi a (by (exact Ar.go [_, _, _] [(.V 0, .V 2, 1), (.V 2, .V 1, 1)] 1 (.V 0) (.V 1) rfl ‹_› h))⟩
    · rw [if_neg h]
      refine ⟨B.lt hk, B.lt (by (exact Ar.go [_, _, _, _, _] [(.P (.V 2) (.N 1), .V 1, 2), (.V 3, .V 4, 1), (.V 4, .V 2, 2), (.L 2 (.V 0), .P (.V 3) (.V 4), 1)] 2 (.P (.V 0) (.N 1)) (.V 1) rfl hk h2 h3 (Nat.mul_div_le _ 2))), ?_⟩
      have up : ∀ a b, a ≤ b → b < k → rk (At p a) ≤ rk (At p b) := fun a b hab hb => by
        by_cases q : a = b
        · rw [q]; exact Nat.le_refl _
        · have := U a b (by (exact Ar.go [_, _] [(.P (.V 0) (.N 1), .V 1, 1)] 1 (.P (.V 0) (.N 1)) (.V 1) rfl (Nat.lt_of_le_of_ne (Ar.go [_, _] [(.V 0, .V 1, 1)] 1 (.V 0) (.V 1) rfl hab) q))) hb
          unfold Pr at this; lia
      show Ok n (Le rk) _ (if Le rk (At p k) (At p ((l + r) / 2)) = true then _ else _)
      by_cases h4 : rk (At p k) < rk (At p ((l + r) / 2))
      · have : Le rk (At p k) (At p ((l + r) / 2)) = true := decide_eq_true h4
        rw [this, if_pos rfl]
        exact place_ B U hk fu l _ (by (exact Ar.go [_, _, _, _] [(.V 3, .P (.V 1) (.P (.V 2) (.N 1)), 1), (.L 2 (.V 0), .P (.V 1) (.V 3), 1)] 2 (.V 0) (.P (.V 1) (.V 2)) rfl h1 (Nat.mul_div_le _ 2))) (by (exact Ar.go [_, _, _] [(.P (.V 0) (.N 1), .V 2, 1), (.P (.P (.V 0) (.V 2)) (.N 1), .L 2 (.P (.V 1) (.N 1)), 1)] 2 (.V 0) (.V 1) rfl (Nat.lt_of_not_le h) (Nat.lt_mul_div_succ _ (by decide)))) (by (exact Ar.go [_, _, _, _] [(.V 2, .V 3, 1), (.V 3, .V 1, 2), (.L 2 (.V 0), .P (.V 2) (.V 3), 1)] 2 (.V 0) (.V 1) rfl h2 h3 (Nat.mul_div_le _ 2))) lo fun a ha hb => Nat.lt_of_lt_of_le h4 (up _ a ha hb)
      · have : Le rk (At p k) (At p ((l + r) / 2)) = false := decide_eq_false h4
        rw [this, if_neg Bool.false_ne_true]
        exact place_ B U hk fu _ r (by (exact Ar.go [_, _, _, _] [(.V 0, .P (.V 3) (.P (.V 2) (.N 1)), 1), (.P (.P (.V 3) (.V 0)) (.N 1), .L 2 (.P (.V 1) (.N 1)), 1)] 2 (.V 0) (.P (.P (.V 1) (.N 1)) (.V 2)) rfl h1 (Nat.lt_mul_div_succ _ (by decide)))) (by (exact Ar.go [_, _, _] [(.P (.V 2) (.N 1), .V 1, 1), (.L 2 (.V 0), .P (.V 2) (.V 1), 1)] 2 (.P (.V 0) (.N 1)) (.V 1) rfl (Nat.lt_of_not_le h) (Nat.mul_div_le _ 2))) (by (exact Ar.go [_, _] [(.V 0, .V 1, 1)] 1 (.V 0) (.V 1) rfl h3)) (fun a ha => Nat.le_trans (up a ((l + r) / 2) (by (exact Ar.go [_, _] [(.P (.V 0) (.N 1), .P (.V 1) (.N 1), 1)] 1 (.V 0) (.V 1) rfl ha)) (by (exact Ar.go [_, _, _, _] [(.V 2, .V 1, 2), (.P (.V 3) (.N 1), .V 2, 1), (.L 2 (.V 0), .P (.V 3) (.V 2), 1)] 2 (.P (.V 0) (.N 1)) (.V 1) rfl h3 (Nat.lt_of_not_le h) (Nat.mul_div_le _ 2)))) (by (exact Ar.go [_, _] [(.V 0, .V 1, 1)] 1 (.V 0) (.V 1) rfl (Nat.le_of_not_lt h4)))) hi
theorem bin_ : ∀ (fu : Nat) (p : Array Nat) (k : Nat), k + fu = n → Base p k n → Up rk p k → Ok n (Le rk) (fun p' => p'.Perm (List.range n).toArray ∧ Up rk p' n) (kas_bin fu p k)
  | 0, p, k, e, B, U => by
    obtain rfl : k = n := by (exact Nat.le_antisymm (Ar.go [_, _] [(.P (.V 0) (.N 0), .V 1, 1)] 1 (.V 0) (.V 1) rfl (Nat.le_of_eq e)) (Ar.go [_, _] [(.V 0, .P (.V 1) (.N 0), 1)] 1 (.V 0) (.V 1) rfl (Nat.le_of_eq e.symm)))
    exact ⟨B.perm, U⟩
  | fu + 1, p, k, e, B, U => by
    have hz := B.size
    refine Ok.bind ((place_ B U (by (exact Ar.go [_, _, _] [(.P (.V 0) (.P (.V 2) (.N 1)), .V 1, 1)] 1 (.P (.V 0) (.N 1)) (.V 1) rfl (Nat.le_of_eq e))) k 0 k (by (exact Ar.go [_] [] 1 (.V 0) (.P (.N 0) (.V 0)) rfl)) (by (exact Ar.go [_] [] 1 (.N 0) (.V 0) rfl)) (Nat.le_refl _) (fun a h => by (exact (Ar.fal (Ar.go [_] [(.P (.V 0) (.N 1), .N 0, 1)] 1 (.N 1) (.N 0) rfl h)).elim)) fun a h1 h2 => by (exact (Ar.fal (Ar.go [_, _] [(.V 0, .V 1, 1), (.P (.V 1) (.N 1), .V 0, 1)] 1 (.N 1) (.N 0) rfl h1 h2)).elim)).mono ?_)
    rintro l ⟨hl, lo, hi⟩
    have e1 := B.id k (Nat.le_refl _) (by (exact Ar.go [_, _, _] [(.P (.V 0) (.P (.V 2) (.N 1)), .V 1, 1)] 1 (.P (.V 0) (.N 1)) (.V 1) rfl (Nat.le_of_eq e)))
    have get := fun x => at_bubble (p := p) (src := k) (by (exact Ar.go [_, _, _, _] [(.P (.V 0) (.P (.V 2) (.N 1)), .V 3, 1), (.V 3, .V 1, 1)] 1 (.P (.V 0) (.N 1)) (.V 1) rfl (Nat.le_of_eq e) (Nat.le_of_eq hz.symm))) (k - l) x (by (exact Ar.go [_, _] [(.V 0, .V 1, 1)] 1 (.V 0) (.V 1) rfl (Nat.sub_le _ _)))
    have hkl : k - (k - l) = l := by (exact Nat.le_antisymm (Ar.go [_, _, _, _] [(.V 2, .P (.V 3) (.V 1), 1), (.P (.V 0) (.V 3), .V 2, 1)] 1 (.V 0) (.V 1) rfl (Ar.up _ _) (Ar.dn (Ar.go [_, _] [(.V 0, .V 1, 1)] 1 (.V 0) (.V 1) rfl (Nat.sub_le _ _)))) (Ar.go [_, _, _, _] [(.V 2, .P (.V 1) (.V 3), 1), (.P (.V 3) (.V 0), .V 2, 1)] 1 (.V 0) (.V 1) rfl (Ar.up _ _) (Ar.dn (Ar.go [_, _] [(.V 0, .V 1, 1)] 1 (.V 0) (.V 1) rfl hl))))
    rw [hkl] at get
    have B' : Base (bubble p k (k - l)) (k + 1) n := by
      refine ⟨by rw [bubble_size]; exact hz, by (exact Ar.go [_, _, _] [(.P (.V 0) (.P (.V 2) (.N 1)), .V 1, 1)] 1 (.P (.V 0) (.N 1)) (.V 1) rfl (Nat.le_of_eq e)), fun a ha => ?_, fun a h1 h2 => ?_, (bubble_perm _ _ _).trans B.perm⟩
      · rw [get]
        split
        · rw [e1]; (exact Ar.go [_] [] 1 (.P (.V 0) (.N 1)) (.P (.V 0) (.N 1)) rfl)
        · split
          · exact Nat.lt_succ_of_lt (B.low _ (by lia))
          · by_cases q : a < k
            · exact Nat.lt_succ_of_lt (B.low _ q)
            · exfalso; lia
      · rw [get, if_neg (by (exact fun he9 => Ar.fal (Ar.go [_, _, _] [(.V 0, .V 1, 1), (.P (.V 1) (.N 1), .V 2, 1), (.V 2, .V 0, 1)] 1 (.N 1) (.N 0) rfl hl h1 (Nat.le_of_eq he9)))), if_neg (by (exact fun he9 => Ar.fal (Ar.go [_, _] [(.P (.V 0) (.N 1), .V 1, 1), (.V 1, .V 0, 1)] 1 (.N 1) (.N 0) rfl h1 he9.2)))]; exact B.id a (by (exact Ar.go [_, _] [(.P (.V 0) (.N 1), .V 1, 1)] 1 (.V 0) (.V 1) rfl h1)) h2
    refine bin_ fu _ (k + 1) (by (exact Nat.le_antisymm (Ar.go [_, _, _] [(.P (.V 0) (.P (.V 1) (.N 1)), .V 2, 1)] 1 (.P (.P (.V 0) (.N 1)) (.V 1)) (.V 2) rfl (Nat.le_of_eq e)) (Ar.go [_, _, _] [(.V 0, .P (.V 1) (.P (.V 2) (.N 1)), 1)] 1 (.V 0) (.P (.P (.V 1) (.N 1)) (.V 2)) rfl (Nat.le_of_eq e.symm)))) B' fun a b hab hb => ?_
    rw [get a, get b]
    by_cases a1 : a = l
    · rw [if_pos a1, if_neg (by (exact fun he9 => Ar.fal (Ar.go [_, _, _] [(.P (.V 0) (.N 1), .V 1, 1), (.V 2, .V 0, 1), (.V 1, .V 2, 1)] 1 (.N 1) (.N 0) rfl hab (Nat.le_of_eq a1.symm) (Nat.le_of_eq he9)))), if_pos (by (exact ⟨Ar.go [_, _, _] [(.P (.V 2) (.N 1), .V 1, 1), (.V 0, .V 2, 1)] 1 (.P (.V 0) (.N 1)) (.V 1) rfl hab (Nat.le_of_eq a1.symm), Ar.go [_, _] [(.P (.V 0) (.N 1), .P (.V 1) (.N 1), 1)] 1 (.V 0) (.V 1) rfl hb⟩))]
      have := hi (b - 1) (by (exact Ar.go [_, _, _, _] [(.P (.V 2) (.N 1), .V 3, 1), (.V 0, .V 2, 1), (.V 3, .P (.V 1) (.N 1), 1)] 1 (.V 0) (.V 1) rfl hab (Nat.le_of_eq a1.symm) (Ar.up _ _))) (by (exact Ar.go [_, _, _] [(.P (.V 2) (.N 1), .P (.V 1) (.N 1), 1), (.P (.V 0) (.N 1), .V 2, 1)] 1 (.P (.V 0) (.N 1)) (.V 1) rfl hb (Ar.dn (Ar.go [_, _] [(.P (.V 1) (.N 1), .V 0, 1)] 1 (.N 1) (.V 0) rfl hab))))
      exact .inl this
    · rw [if_neg a1]
      by_cases a2 : l < a ∧ a ≤ k
      · rw [if_pos a2, if_neg (by (exact fun he9 => Ar.fal (Ar.go [_, _, _] [(.P (.V 0) (.N 1), .V 1, 1), (.P (.V 2) (.N 1), .V 0, 1), (.V 1, .V 2, 1)] 2 (.N 1) (.N 0) rfl hab a2.1 (Nat.le_of_eq he9)))), if_pos (by (exact ⟨Ar.go [_, _, _] [(.P (.V 2) (.N 1), .V 1, 1), (.P (.V 0) (.N 1), .V 2, 1)] 1 (.P (.V 0) (.N 1)) (.V 1) rfl hab a2.1, Ar.go [_, _] [(.P (.V 0) (.N 1), .P (.V 1) (.N 1), 1)] 1 (.V 0) (.V 1) rfl hb⟩))]
        exact U (a - 1) (b - 1) (by (exact Ar.go [_, _, _, _] [(.P (.V 2) (.N 1), .V 3, 1), (.V 3, .P (.V 1) (.N 1), 1), (.P (.V 0) (.N 1), .V 2, 1)] 1 (.P (.V 0) (.N 1)) (.V 1) rfl hab (Ar.up _ _) (Ar.dn (Ar.go [_, _] [(.P (.V 1) (.N 1), .V 0, 1)] 1 (.N 1) (.V 0) rfl a2.1)))) (by (exact Ar.go [_, _, _] [(.P (.V 2) (.N 1), .P (.V 1) (.N 1), 1), (.P (.V 0) (.N 1), .V 2, 1)] 1 (.P (.V 0) (.N 1)) (.V 1) rfl hb (Ar.dn (Ar.go [_, _] [(.P (.V 1) (.N 1), .V 0, 1)] 1 (.N 1) (.V 0) rfl hab))))
      · rw [if_neg a2]
        by_cases b1 : b = l
        · rw [if_pos b1]
          have h1 := lo a (by (exact Ar.go [_, _, _] [(.P (.V 0) (.N 1), .V 2, 1), (.V 2, .V 1, 1)] 1 (.P (.V 0) (.N 1)) (.V 1) rfl hab (Nat.le_of_eq b1)))
          have h2 := B.low a (by (exact Ar.go [_, _, _] [(.P (.V 0) (.N 1), .V 2, 1), (.P (.V 2) (.N 1), .P (.V 1) (.N 1), 1)] 1 (.P (.V 0) (.N 1)) (.V 1) rfl hab hb))
          unfold Pr; lia
        · rw [if_neg b1]
          by_cases b2 : l < b ∧ b ≤ k
          · rw [if_pos b2]
            exact U a (b - 1) (by lia) (by (exact Ar.go [_, _, _] [(.P (.V 2) (.N 1), .P (.V 1) (.N 1), 1), (.P (.V 0) (.N 1), .V 2, 1)] 1 (.P (.V 0) (.N 1)) (.V 1) rfl hb (Ar.dn (Ar.go [_, _] [(.P (.V 1) (.N 1), .V 0, 1)] 1 (.N 1) (.V 0) rfl hab))))
          · rw [if_neg b2]
            exact U a b hab (by lia)
theorem sort_ (h1 : 1 ≤ n) : Ok n (Le rk) (fun p' => p'.Perm (List.range n).toArray ∧ Up rk p' n) (kas_sort n) := by
  refine Ok.bind ((count_ (p := (List.range n).toArray) (by simp) (fun a ha => by simp [At, ha]) (Array.Perm.refl _) h1).mono ?_)
  rintro ⟨m, p⟩ ⟨hm, B, U⟩
  dsimp only at hm B U ⊢
  have hle := B.le
  split
  · have : max m 1 = m := by (exact Nat.le_antisymm (Ar.go [_, _] [(.V 0, .V 1, 1)] 1 (.V 0) (.V 1) rfl (Nat.le_of_eq (Nat.max_eq_left (Ar.go [_] [(.N 1, .V 0, 1)] 1 (.N 1) (.V 0) rfl hm)))) (Ar.go [_, _] [(.V 0, .V 1, 1)] 1 (.V 0) (.V 1) rfl (Nat.le_max_left _ _)))
    rw [this]
    exact bin_ (n - m) p m (by (exact Nat.le_antisymm (Ar.go [_, _, _] [(.P (.V 1) (.V 0), .V 2, 1)] 1 (.P (.V 0) (.V 1)) (.V 2) rfl (Ar.dn (Ar.go [_, _] [(.V 0, .V 1, 1)] 1 (.V 0) (.V 1) rfl hle))) (Ar.go [_, _, _] [(.V 0, .P (.V 2) (.V 1), 1)] 1 (.V 0) (.P (.V 1) (.V 2)) rfl (Ar.up _ _)))) B U
  · obtain rfl : m = n := by lia
    exact ⟨B.perm, U⟩
end
end Mine.Srt
end
section
open PySem PySem.Spec PySem.Calls PySem.W PyProof.Rows
set_option genInjectivity false
set_option genSizeOf false
set_option maxHeartbeats 4000000
namespace Mine.Srt
section
variable {prog : Program} {w : World} {A : Around} {E : Value → Shared → Prop} {s : Shared} {h₀ : Heap} {L l a kS : Addr} {m : Str → Option Value} {news : List (Addr × Obj)} {vs : List Value} {T f : Value}
  {rk : Nat → Nat} {G : List (Addr × Obj) → Nat → Value → Prop} {e1 : Nat} {P : PySem.Fin → Shared → Prop}
noncomputable def KEnd (h₀ : Heap) (L : Addr) (m : Str → Option Value) (led : List (Addr × Obj)) (G : List (Addr × Obj) → Nat → Value → Prop) (j : Nat) (s₁ : Shared) (v : Value) (s₂ : Shared) : Prop :=
  ∃ h' tk own, s₂ = { s₁ with heap := h', toks := tk } ∧ Fr h₀ L h' m ∧ News h₀ L h' (own ++ led) ∧ (∀ p ∈ own, ∀ q ∈ led, q.1 < p.1) ∧ G own j v
noncomputable abbrev Led (news inst : List (Addr × Obj)) (kS a : Addr) (kA : Array Value) (e e1 : Nat) : List (Addr × Obj) := (news ++ inst) ++ [(kS, seqObj "list" kA e), (a, seqObj "list" #[] e1)]
theorem tail_ {inst : List (Addr × Obj)} {st : SortSt} {keys : Array Value} {e : Nat} {p : Array Nat} (F : Fr h₀ L s.heap m) (N : News h₀ L s.heap (Led news inst kS a keys e e1)) (hka : kS ≠ a) (hnk : ∀ p ∈ news ++ inst, p.1 ≠ kS) (hna : ∀ p ∈ news ++ inst, p.1 ≠ a)
    (hsz : keys.size = vs.length) (h64 : vs.length < 64) (hp : p.size = vs.length) (har : arrOf st = p.map (kas_item (keys.zip vs.toArray))) (hfl : failedOf st = none) (hin : ∀ i ∈ p.toList, i < vs.length)
    (h : ∀ h' tk c, Fr h₀ L h' m → News h₀ L h' ((a, seqObj "list" (p.toList.map fun i => vs.getD i Value.none).toArray c) :: news) → P (.done (.ret .none)) { s with heap := h', toks := tk }) :
    wpAny (model prog w) A (ksk_tail a false e1 (.ref kS) st) P E s := by
  have nk := N (kS, seqObj "list" keys e) (List.mem_append_right _ (.head _))
  have na := N (a, seqObj "list" #[] e1) (List.mem_append_right _ (.tail _ (.head _)))
  have Nn : News h₀ L s.heap (news ++ inst) := fun p hp => N p (List.mem_append_left _ hp)
  have hout : (arrOf st).map (·.2) = (p.toList.map fun i => vs.getD i Value.none).toArray := by
    apply Array.toList_inj.mp
    rw [har, Array.map_map, Array.toList_map]
    refine List.map_congr_left fun i hi => ?_
    have hi' := hin i hi
    show (kas_item (keys.zip vs.toArray) i).2 = _
    have hz : i < (keys.zip vs.toArray).size := by rw [Array.size_zip, hsz, List.size_toArray, Nat.min_self]; exact hi'
    unfold kas_item
    have e : (keys.zip vs.toArray).getD i (Value.none, Value.none) = (keys.zip vs.toArray)[i] := by rw [Array.getD_eq_getD_getElem?, Array.getElem?_eq_getElem hz]; rfl
    rw [e, Array.getElem_zip]
    simp [hi']
  have hsz2 : ((arrOf st).map (·.2)).size = vs.length := by rw [hout, List.size_toArray, List.length_map, Array.length_toList, hp]
  have s1 := Heap.SameBut.update s.heap kS (Obj.mapSeq fun _ => (#[] : Array Value))
  have na1 : (s.heap.update kS (Obj.mapSeq fun _ => (#[] : Array Value))).get? a = some (seqObj "list" #[] e1) := (s1.2 a hka.symm).trans na.1
  have s2 := Heap.SameBut.update (s.heap.update kS (Obj.mapSeq fun _ => (#[] : Array Value))) a (Obj.mapSeq fun _ => (arrOf st).map (·.2))
  obtain ⟨c2, hc2⟩ : ∃ c2, ((s.heap.update kS (Obj.mapSeq fun _ => (#[] : Array Value))).update a (Obj.mapSeq fun _ => (arrOf st).map (·.2))).get? a = some (seqObj "list" ((arrOf st).map (·.2)) c2) :=
    ⟨_, get?_update_seq na1 fun _ => (arrOf st).map (·.2)⟩
  have N2 := ksk_news (ksk_news Nn s1 hnk) s2 hna
  unfold ksk_tail
  try dsimp only
  refine wpAny_bind (listUpdate_at nk.1 rfl ?_ (by rw [hsz, sizeLine_eq]; (exact Ar.go [_] [(.P (.V 0) (.N 1), .N 64, 1)] 1 (.V 0) (.N 16777216) rfl h64)) (Nat.zero_le _))
  refine wpAny_bind (wpAny_letGo ?_)
  refine wpAny_bind (seqEpoch_at na1 rfl ?_)
  refine wpAny_bind (listUpdate_at na1 rfl ?_ (Nat.zero_le _) (Nat.le_trans (Nat.le_of_eq (by simpa using hsz2)) (by rw [sizeLine_eq]; (exact Ar.go [_] [(.P (.V 0) (.N 1), .N 64, 1)] 1 (.V 0) (.P (.N 16777216) (.N 1)) rfl h64))))
  rw [hfl]
  simp only [bne_self_eq_false, Bool.false_eq_true, if_false]
  refine wpAny_pure (h _ _ c2 (ksk_fr (ksk_fr F s1 nk.2.1 nk.2.2) s2 na.2.1 na.2.2) (fun q hq => ?_))
  rcases List.mem_cons.mp hq with rfl | hq
  · rw [← hout]; exact ⟨hc2, na.2⟩
  · exact N2 q (List.mem_append_left _ hq)
inductive RInv (s : Shared) (h₀ : Heap) (L : Addr) (m : Str → Option Value) (news : List (Addr × Obj)) (kS a : Addr) (e1 : Nat) (G : List (Addr × Obj) → Nat → Value → Prop) (i : Nat) : Shared → Prop
  | mk (h' : Heap) (tk : Nat) (kA : Array Value) (e : Nat) (inst : List (Addr × Obj)) (F : Fr h₀ L h' m) (N : News h₀ L h' (Led news inst kS a kA e e1)) (hi : ∀ p ∈ inst, p.1 ≠ kS ∧ p.1 ≠ a) (hz : kA.size = i) (hg : ∀ j v, kA[j]? = some v → G inst j v) : RInv s h₀ L m news kS a e1 G i { s with heap := h', toks := tk }
inductive AtL (s : Shared) (h₀ : Heap) (L : Addr) (m : Str → Option Value) (led : List (Addr × Obj)) : Shared → Prop
  | mk (h' : Heap) (tk : Nat) (F : Fr h₀ L h' m) (N : News h₀ L h' led) : AtL s h₀ L m led { s with heap := h', toks := tk }
theorem rest_ (F : Fr h₀ L s.heap m) (N : News h₀ L s.heap (Led news [] kS a #[] 0 e1)) (hka : kS ≠ a) (hnk : ∀ p ∈ news, p.1 ≠ kS) (hna : ∀ p ∈ news, p.1 ≠ a) (h2 : 2 ≤ vs.length) (h64 : vs.length < 64)
    (gm : ∀ o o' j v, (∀ p ∈ o, p ∈ o') → G o j v → G o' j v) (hT1 : (T != Value.type "tuple") = true) (hT2 : (T == T) = true)
    (turn : ∀ (j : Nat) (v : Value), vs[j]? = some v → ∀ (h : Heap) (tk : Nat) (led : List (Addr × Obj)), (∀ p ∈ news, p ∈ led) → Fr h₀ L h m → News h₀ L h led →
      wpAny (model prog w) A (call f [v]) (KEnd h₀ L m led G j { s with heap := h, toks := tk }) (fun _ _ => False) { s with heap := h, toks := tk })
    (hT : ∀ (h : Heap) (inst led : List (Addr × Obj)) j v, News h₀ L h led → (∀ p ∈ inst, p ∈ led) → G inst j v → Looks (model prog w) h (typeOf v) T)
    (cmp : ∀ (i j : Nat) (u v : Value) (inst led : List (Addr × Obj)) (h : Heap) (tk : Nat) (C : Bool → Shared → Prop), i < vs.length → j < vs.length → G inst i u → G inst j v → (∀ p ∈ inst, p ∈ led) → (∀ p ∈ news, p ∈ led) → Fr h₀ L h m → News h₀ L h led →
      (∀ h' tk', Fr h₀ L h' m → News h₀ L h' led → C (Le rk i j) { s with heap := h', toks := tk' }) → wpAny (model prog w) A (keyLt' oneType' u v) C (fun _ _ => False) { s with heap := h, toks := tk })
    (h : ∀ (p : Array Nat) h' tk c, p.Perm (List.range vs.length).toArray → Up rk p vs.length → Fr h₀ L h' m → News h₀ L h' ((a, seqObj "list" (p.toList.map fun i => vs.getD i Value.none).toArray c) :: news) → P (.done (.ret .none)) { s with heap := h', toks := tk }) :
    wpAny (model prog w) A (ksk_rest a f false vs.toArray e1 (.ref kS)) P E s := by
  unfold ksk_rest
  refine wpAny_bind (wpAny_rule ?_)
  first
    | rw [List.forIn_toArray]
    | (rw [← Array.forIn_toList]; simp only [List.toList_toArray])
    | rw [← Array.forIn_toList]
  refine wpAny_bind (ksk_fold (RInv s h₀ L m news kS a e1 G) vs 0 s
    (.mk s.heap s.toks #[] 0 [] F N (fun _ h => nomatch h) rfl fun j v h => by simp at h) ?step ?done)
  case step =>
    rintro j x s' hx ⟨h', tk, kA, e, inst, F', N', hi, hz, hg⟩
    simp only [Nat.zero_add] at hz ⊢
    have hj : j < vs.length := (List.getElem?_eq_some_iff.mp hx).1
    refine wpAny_bind (wpAny_attempt (wpAny_mono (turn j x hx h' tk _ (fun p hp => List.mem_append_left _ (List.mem_append_left _ hp)) F' N') (fun v s'' he => ?_) fun _ _ hF => hF.elim))
    obtain ⟨g, tk2, own, rfl, F2, N2, fr, gv⟩ := he
    try dsimp only
    have mk : (kS, seqObj "list" kA e) ∈ Led news inst kS a kA e e1 := List.mem_append_right _ (.head _)
    have ma : (a, seqObj "list" #[] e1) ∈ Led news inst kS a kA e e1 := List.mem_append_right _ (.tail _ (.head _))
    have nk := N2 _ (List.mem_append_right own mk)
    have na := N2 _ (List.mem_append_right own ma)
    have s1 := Heap.SameBut.update g kS (Obj.mapSeq (·.push v))
    obtain ⟨c2, hc2⟩ : ∃ c2, (g.update kS (Obj.mapSeq (·.push v))).get? kS = some (seqObj "list" (kA.push v) c2) := ⟨_, get?_update_seq nk.1 (·.push v)⟩
    refine wpAny_bind (listUpdate_at nk.1 rfl ?_ (by rw [sizeLine_eq]; (exact Ar.go [_, _, _] [(.P (.V 1) (.N 1), .N 64, 1), (.V 0, .V 2, 1), (.P (.V 2) (.N 1), .V 1, 1)] 1 (.V 0) (.N 16777216) rfl h64 (Nat.le_of_eq hz) hj)) (Nat.le_trans (Nat.le_of_eq (Array.size_push ..)) (by rw [sizeLine_eq]; (exact Ar.go [_, _, _] [(.P (.V 1) (.N 1), .N 64, 1), (.V 0, .V 2, 1), (.P (.V 2) (.N 1), .V 1, 1)] 1 (.P (.V 0) (.N 1)) (.P (.N 16777216) (.N 1)) rfl h64 (Nat.le_of_eq hz) hj))))
    refine wpAny_pure ⟨rfl, .mk _ _ (kA.push v) c2 (own ++ inst) (ksk_fr F2 s1 nk.2.1 nk.2.2) (fun p hp => ?_) (fun p hp => ?_) (by rw [Array.size_push, hz]) (fun i u hu => ?_)⟩
    · rcases List.mem_append.mp hp with hp | hp
      · refine ksk_news (news := news ++ (own ++ inst)) (fun q hq => N2 q ?_) s1 (fun q hq => ?_) p hp
        · rcases List.mem_append.mp hq with hq | hq
          · exact List.mem_append_right _ (List.mem_append_left _ (List.mem_append_left _ hq))
          · rcases List.mem_append.mp hq with hq | hq
            · exact List.mem_append_left _ hq
            · exact List.mem_append_right _ (List.mem_append_left _ (List.mem_append_right _ hq))
        · rcases List.mem_append.mp hq with hq | hq
          · exact hnk q hq
          · rcases List.mem_append.mp hq with hq | hq
            · exact Nat.ne_of_gt (fr q hq _ mk)
            · exact (hi q hq).1
      · rcases List.mem_cons.mp hp with rfl | hp
        · exact ⟨hc2, nk.2⟩
        · rw [List.mem_singleton.mp hp]
          exact ⟨(s1.2 a hka.symm).trans na.1, na.2⟩
    · rcases List.mem_append.mp hp with hp | hp
      · exact ⟨Nat.ne_of_gt (fr p hp _ mk), Nat.ne_of_gt (fr p hp _ ma)⟩
      · exact hi p hp
    · rw [Array.getElem?_push] at hu
      split at hu
      · cases hu
        subst_vars
        exact gm _ _ _ _ (fun p hp => List.mem_append_left _ hp) gv
      · exact gm _ _ _ _ (fun p hp => List.mem_append_right _ hp) (hg i u hu)
  case done =>
    rintro s' ⟨h', tk, kA, e, inst, F', N', hi, hz, hg⟩
    rw [Nat.zero_add] at hz
    have nk := N' (kS, seqObj "list" kA e) (List.mem_append_right _ (.head _))
    try dsimp only
    refine wpAny_bind (listItems_at nk.1 rfl ?_)
    unfold ksk_end
    try dsimp only
    rw [if_neg Bool.false_ne_true]
    have hn2 : ¬ vs.toArray.size < 2 := by rw [List.size_toArray]; (exact Nat.not_lt_of_le (Ar.go [_] [(.N 2, .V 0, 1)] 1 (.N 2) (.V 0) rfl h2))
    rw [if_neg hn2, if_neg hn2]
    have hmi : ∀ p ∈ inst, p ∈ Led news inst kS a kA e e1 := fun p hp => List.mem_append_left _ (List.mem_append_right _ hp)
    have hmn : ∀ p ∈ news, p ∈ Led news inst kS a kA e e1 := fun p hp => List.mem_append_left _ (List.mem_append_left _ hp)
    have ek : kA = kA.toList.toArray := by simp
    have hkind : ∀ {Q : SortKind → Shared → Prop}, Q oneType' { s with heap := h', toks := tk } → wpAny (model prog w) A (keyKind' kA) Q E { s with heap := h', toks := tk } := fun {Q} q => by
      rw [ek]
      refine kas_kind (T := T) (by rw [Array.length_toList]; (exact Ar.go [_, _] [(.N 2, .V 1, 1), (.V 1, .V 0, 1)] 1 (.N 2) (.V 0) rfl h2 (Nat.le_of_eq hz.symm))) (fun v hv => ?_) hT1 hT2 q
      obtain ⟨j, hj⟩ := List.getElem?_of_mem hv
      rw [Array.getElem?_toList] at hj
      exact hT h' inst _ j v N' hmi (hg j v hj)
    refine wpAny_bind (hkind ?_)
    rw [if_neg Bool.false_ne_true]
    have hsz : (kA.zip vs.toArray).size = vs.length := by rw [Array.size_zip, hz, List.size_toArray, Nat.min_self]
    have est : SortSt.mk' oneType' (kA.zip vs.toArray) #[] 7 none = kas_st oneType' (kA.zip vs.toArray) (List.toArray (List.range vs.length)) := by
      have e := kas_range (kA.zip vs.toArray)
      rw [hsz] at e
      show SortSt.mk' oneType' (kA.zip vs.toArray) #[] 7 none = SortSt.mk' oneType' ((List.toArray (List.range vs.length)).map (kas_item (kA.zip vs.toArray))) #[] 7 none
      rw [e]
    have key : ∀ i, i < vs.length → ∃ u, (kas_item (kA.zip vs.toArray) i).1 = u ∧ G inst i u := fun i hi' => by
      have hz' : i < (kA.zip vs.toArray).size := by rw [hsz]; exact hi'
      have e : kas_item (kA.zip vs.toArray) i = (kA.zip vs.toArray)[i] := by
        unfold kas_item; rw [Array.getD_eq_getD_getElem?, Array.getElem?_eq_getElem hz']; rfl
      refine ⟨_, rfl, hg i _ ?_⟩
      rw [e, Array.getElem_zip]
      exact Array.getElem?_eq_getElem (by (exact Ar.go [_, _, _] [(.V 2, .V 1, 1), (.P (.V 0) (.N 1), .V 2, 1)] 1 (.P (.V 0) (.N 1)) (.V 1) rfl (Nat.le_of_eq hz.symm) hi'))
    have ask := Ok.wp (cmp := kas_cmp prog w A oneType' (kA.zip vs.toArray)) (J := AtL s h₀ L m (Led news inst kS a kA e e1))
      (Q := fun p s' => p.Perm (List.range vs.length).toArray ∧ Up rk p vs.length ∧ AtL s h₀ L m (Led news inst kS a kA e e1) s')
      (fun i j C s' hi' hj' hJ hC => by
        obtain ⟨h2, tk2, F2, N2⟩ := hJ
        obtain ⟨u, e1, g1⟩ := key i hi'
        obtain ⟨v, e2, g2⟩ := key j hj'
        unfold kas_cmp
        rw [e1, e2]
        exact cmp i j u v inst _ h2 tk2 C hi' hj' g1 g2 hmi hmn F2 N2 fun h3 tk3 F3 N3 => hC _ ⟨h3, tk3, F3, N3⟩)
      (fun p s' hp hs => ⟨hp.1, hp.2, hs⟩) (sort_ (rk := rk) (n := vs.length) (by (exact Ar.go [_] [(.N 2, .V 0, 1)] 2 (.N 1) (.V 0) rfl h2))) (s := { s with heap := h', toks := tk }) ⟨h', tk, F', N'⟩
    have run := kas_runs (E := E) (Q := fun _ st' s' => ∃ p : Array Nat, p.size = vs.length ∧ arrOf st' = p.map (kas_item (kA.zip vs.toArray)) ∧ failedOf st' = none ∧ (p.Perm (List.range vs.length).toArray ∧ Up rk p vs.length ∧ AtL s h₀ L m (Led news inst kS a kA e e1) s'))
      h2 h64 (fun p' st' s' a1 a2 a3 a4 => ⟨p', a1, a2, a3, a4⟩) ask
    rw [← est] at run
    refine wpAny_bind (wpAny_mono run ?_ fun _ _ e => e)
    rintro ⟨⟨⟩, st'⟩ s' ⟨p, hp, har, hf, pp, pu, h3, tk3, F3, N3⟩
    dsimp only
    refine tail_ F3 N3 hka (fun q hq => (List.mem_append.mp hq).elim (hnk q) fun h => (hi q h).1) (fun q hq => (List.mem_append.mp hq).elim (hna q) fun h => (hi q h).2) hz h64 hp har hf (fun i hi' => ?_) fun h4 tk4 c F4 N4 => h p h4 tk4 c pp pu F4 N4
    have := (Array.perm_iff_toList_perm.mp pp).mem_iff.mp hi'
    simpa using this
theorem lsort_ {n : Nat} (F : Fr h₀ L s.heap m) (N : News h₀ L s.heap news) (ho : s.heap.get? a = some (seqObj "list" vs.toArray n)) (haL : a ≠ L) (ha0 : h₀.get? a = none) (hna : ∀ p ∈ news, p.1 ≠ a) (h2 : 2 ≤ vs.length) (h64 : vs.length < 64)
    (gm : ∀ o o' j v, (∀ p ∈ o, p ∈ o') → G o j v → G o' j v) (hT1 : (T != Value.type "tuple") = true) (hT2 : (T == T) = true)
    (turn : ∀ (j : Nat) (v : Value), vs[j]? = some v → ∀ (h : Heap) (tk : Nat) (led : List (Addr × Obj)), (∀ p ∈ news, p ∈ led) → Fr h₀ L h m → News h₀ L h led →
      wpAny (model prog w) A (call f [v]) (KEnd h₀ L m led G j { s with heap := h, toks := tk }) (fun _ _ => False) { s with heap := h, toks := tk })
    (hT : ∀ (h : Heap) (inst led : List (Addr × Obj)) j v, News h₀ L h led → (∀ p ∈ inst, p ∈ led) → G inst j v → Looks (model prog w) h (typeOf v) T)
    (cmp : ∀ (i j : Nat) (u v : Value) (inst led : List (Addr × Obj)) (h : Heap) (tk : Nat) (C : Bool → Shared → Prop), i < vs.length → j < vs.length → G inst i u → G inst j v → (∀ p ∈ inst, p ∈ led) → (∀ p ∈ news, p ∈ led) → Fr h₀ L h m → News h₀ L h led →
      (∀ h' tk', Fr h₀ L h' m → News h₀ L h' led → C (Le rk i j) { s with heap := h', toks := tk' }) → wpAny (model prog w) A (keyLt' oneType' u v) C (fun _ _ => False) { s with heap := h, toks := tk })
    (h : ∀ (p : Array Nat) h' tk c, p.Perm (List.range vs.length).toArray → Up rk p vs.length → Fr h₀ L h' m → News h₀ L h' ((a, seqObj "list" (p.toList.map fun i => vs.getD i Value.none).toArray c) :: news) → P (.done (.ret .none)) { s with heap := h', toks := tk }) :
    wpAny (model prog w) A (ksk_tree a f false) P E s := by
  have ha : a < s.heap.objs.size := Heap.lt_size ho
  have s1 := Heap.SameBut.update s.heap a (Obj.mapSeq fun _ => (#[] : Array Value))
  obtain ⟨e1, ho1⟩ : ∃ e1, (s.heap.update a (Obj.mapSeq fun _ => (#[] : Array Value))).get? a = some (seqObj "list" #[] e1) := ⟨_, get?_update_seq ho fun _ => #[]⟩
  have F1 := ksk_fr F s1 haL ha0
  have N1 := ksk_news N s1 hna
  have hkS : ((s.heap.update a (Obj.mapSeq fun _ => (#[] : Array Value))).push (seqObj "tuple" vs.toArray 0)).objs.size = s.heap.objs.size + 1 := by rw [size_push', Heap.size_update]
  have hLk : L < ((s.heap.update a (Obj.mapSeq fun _ => (#[] : Array Value))).push (seqObj "tuple" vs.toArray 0)).objs.size := (F1.push _).ns.lt
  unfold ksk_tree
  refine wpAny_bind (listItems_at ho rfl ?_)
  refine wpAny_bind (listUpdate_at ho rfl ?_ (by rw [List.size_toArray, sizeLine_eq]; (exact Ar.go [_] [(.P (.V 0) (.N 1), .N 64, 1)] 1 (.V 0) (.N 16777216) rfl h64)) (Nat.zero_le _))
  refine wpAny_bind (seqEpoch_at ho1 rfl ?_)
  refine wpAny_bind (wpAny_newTuple ?_ (by show vs.length ≤ _; rw [sizeLine_eq]; (exact Ar.go [_] [(.P (.V 0) (.N 1), .N 64, 1)] 1 (.V 0) (.N 16777216) rfl h64)))
  refine wpAny_bind (wpAny_newList ?_ (Nat.zero_le _))
  refine wpAny_holding ?_
  refine rest_ (s := { s with heap := ((s.heap.update a (Obj.mapSeq fun _ => (#[] : Array Value))).push (seqObj "tuple" vs.toArray 0)).push (seqObj "list" #[] 0) }) (kS := ((s.heap.update a (Obj.mapSeq fun _ => (#[] : Array Value))).push (seqObj "tuple" vs.toArray 0)).objs.size)
    ((F1.push _).push _) (fun p hp => ?_) (by rw [hkS]; exact Nat.ne_of_gt (Nat.lt_succ_of_lt ha)) (fun p hp => by rw [hkS]; exact Nat.ne_of_lt (Nat.lt_succ_of_lt (Heap.lt_size (N p hp).1))) hna h2 h64 gm hT1 hT2 turn hT cmp h
  rcases List.mem_append.mp hp with hp | hp
  · rw [List.append_nil] at hp
    exact ⟨Heap.get?_push_of_some _ (Heap.get?_push_of_some _ (N1 p hp).1), (N1 p hp).2⟩
  · rcases List.mem_cons.mp hp with rfl | hp
    · exact ⟨Heap.get?_push_size _ rfl, Nat.ne_of_gt hLk, Heap.get?_none_of_le (Nat.le_trans F.above (Nat.le_of_lt hLk))⟩
    · rw [List.mem_singleton.mp hp]
      exact ⟨Heap.get?_push_of_some _ (Heap.get?_push_of_some _ ho1), haL, ha0⟩
theorem sorted_ {q : Addr} {Q : Value → Shared → Prop} (hf : f = .ref q) (F : Fr h₀ L s.heap m) (N : News h₀ L s.heap news) (hl : s.heap.IsList l vs.toArray) (h2 : 2 ≤ vs.length) (h64 : vs.length < 64)
    (gm : ∀ o o' j v, (∀ p ∈ o, p ∈ o') → G o j v → G o' j v) (hT1 : (T != Value.type "tuple") = true) (hT2 : (T == T) = true)
    (turn : ∀ (j : Nat) (v : Value), vs[j]? = some v → ∀ (h : Heap) (tk : Nat) (led : List (Addr × Obj)), (∀ p ∈ news, p ∈ led) → Fr h₀ L h m → News h₀ L h led →
      wpAny (model prog w) A.in1.in1 (call f [v]) (KEnd h₀ L m led G j { s with heap := h, toks := tk }) (fun _ _ => False) { s with heap := h, toks := tk })
    (hT : ∀ (h : Heap) (inst led : List (Addr × Obj)) j v, News h₀ L h led → (∀ p ∈ inst, p ∈ led) → G inst j v → Looks (model prog w) h (typeOf v) T)
    (cmp : ∀ (i j : Nat) (u v : Value) (inst led : List (Addr × Obj)) (h : Heap) (tk : Nat) (C : Bool → Shared → Prop), i < vs.length → j < vs.length → G inst i u → G inst j v → (∀ p ∈ inst, p ∈ led) → (∀ p ∈ news, p ∈ led) → Fr h₀ L h m → News h₀ L h led →
      (∀ h' tk', Fr h₀ L h' m → News h₀ L h' led → C (Le rk i j) { s with heap := h', toks := tk' }) → wpAny (model prog w) A.in1.in1 (keyLt' oneType' u v) C (fun _ _ => False) { s with heap := h, toks := tk })
    (h : ∀ D (p : Array Nat) h' tk c, p.Perm (List.range vs.length).toArray → Up rk p vs.length → Fr h₀ L h' m → News h₀ L h' ((D, seqObj "list" (p.toList.map fun i => vs.getD i Value.none).toArray c) :: news) → (∀ q ∈ news, q.1 < D) → Q (.ref D) { s with heap := h', toks := tk }) :
    wpAny (model prog w) A (call (.builtin "sorted") [.ref l] [("key", f)]) Q E s := by
  subst hf
  refine call_function_entry_kw kind_sorted plain_sorted entry_sorted (ksk_s1 _ _) ?_
  unfold Builtin.«sorted»
  refine wpAny_bind (m := checkCount "sorted" 1 1 _) (wpAny_pure ?_)
  refine wpAny_bind (collect_list hl ?_ (by rw [sizeLine_eq]; (exact Ar.go [_] [(.P (.V 0) (.N 1), .N 64, 1)] 1 (.V 0) (.N 16777216) rfl h64)))
  refine wpAny_bind (wpAny_newList ?_ (by rw [sizeLine_eq]; (exact Ar.go [_] [(.P (.V 0) (.N 1), .N 64, 1)] 1 (.V 0) (.N 16777216) rfl h64)))
  have hsz : ((s.heap.push (seqObj "list" #[] 0)).update s.heap.objs.size (Obj.mapSeq (· ++ vs.toArray))).objs.size = s.heap.objs.size + 1 := by
    rw [Heap.size_update, size_push']
  have hoL : (((s.heap.push (seqObj "list" #[] 0)).update s.heap.objs.size (Obj.mapSeq (· ++ vs.toArray))).push (seqObj "list" vs.toArray 0)).get? (s.heap.objs.size + 1) = some (seqObj "list" vs.toArray 0) := by
    rw [← hsz]; exact Heap.get?_push_size _ rfl
  have keep : ∀ b o, s.heap.get? b = some o → (((s.heap.push (seqObj "list" #[] 0)).update s.heap.objs.size (Obj.mapSeq (· ++ vs.toArray))).push (seqObj "list" vs.toArray 0)).get? b = some o := fun b o q => by
    have hlt : b < s.heap.objs.size := Heap.lt_size q
    rw [Heap.get?_push_ne _ _ _ (by rw [hsz]; exact Nat.ne_of_lt (Nat.lt_succ_of_lt hlt)), Heap.get?_update_ne _ _ _ _ (Nat.ne_of_lt hlt), Heap.get?_push_ne _ _ _ (Nat.ne_of_lt hlt)]
    exact q
  have hL : L < s.heap.objs.size := F.ns.lt
  show wpAny _ _ _ _ _ { s with heap := ((s.heap.push (seqObj "list" #[] 0)).update s.heap.objs.size (Obj.mapSeq (· ++ vs.toArray))).push (seqObj "list" vs.toArray 0) }
  rw [hsz]
  refine wpAny_bind (wpAny_holding (wpAny_call_entry_kw slot_list_sort ⟨_, hoL, rfl⟩ entry_list_sort ?body (ksk_l1 _ _)))
  case body =>
    show wpAny (model prog w) A.in1.in1 (Builtin.«list.sort» ⟨[.ref (s.heap.objs.size + 1)], [(Str.ofString "key", .ref q)]⟩) _ _ _
    rw [ksk_t1]
    refine lsort_ (s := { s with heap := ((s.heap.push (seqObj "list" #[] 0)).update s.heap.objs.size (Obj.mapSeq (· ++ vs.toArray))).push (seqObj "list" vs.toArray 0) })
      (F.kept keep) (N.grown keep) hoL (Nat.ne_of_gt (Nat.lt_succ_of_lt hL)) (Heap.get?_none_of_le (Nat.le_trans F.above (Nat.le_succ_of_le (Nat.le_of_lt hL))))
      (fun p hp => Nat.ne_of_lt (Nat.lt_succ_of_lt (Heap.lt_size (N p hp).1))) h2 h64 gm hT1 hT2 turn hT cmp fun p h' tk c pp pu F' N' => ⟨_, rfl, ?_⟩
    exact wpAny_pure ⟨_, rfl, h _ p h' tk c pp pu F' N' (fun q hq => Nat.lt_succ_of_lt (Heap.lt_size (N q hq).1))⟩
end
end Mine.Srt
end
section
open PySem PySem.Spec PySem.Calls PySem.W PyProof.Rows
namespace Mine
variable {p : Program} {loose : List Str} {w : World} {mean : ExcName → Option Value} {mg mb : Str → Option Value}

set_option maxHeartbeats 0
open Mine.C2 Mine.Srt PySem.Builtin

theorem lt_inst {prog : Program} {w : World} {A : Around} {E : Value → Shared → Prop} {s : Shared} {K : Frag} {x C f : Addr} {ox : Obj} {od : Option Obj} {b : Value} {Q : Bool → Shared → Prop} (hu : A.units < cLine) (X : K.In s.heap) (I : InstAt s.heap x ox C od) (hs : findIn K (.ref C) "__lt__" = some (some (.ref f))) (hf : isFn K (.ref f) = true)
    (h : wpAny (model prog w) A (call (.ref f) [.ref x, b]) (PySem.W.BoolBack Q) E s) : wpAny (model prog w) A (keyLt' oneType' (.ref x) b) Q E s := by
  rw [keyLt'_oneType, oneLt'_eq]
  rw [if_pos rfl]
  refine wpAny_bind (wpAny_cRoomFor hu ?_)
  refine wpAny_bind (ifBound_K X I hs hf (wpAny_mono h (fun v s' hv => ?_) fun _ _ e => e))
  cases v <;> first | exact hv.elim | skip
  exact wpAny_truthy_bool hv
noncomputable def KeyAt (k : Kd) (vs : List Value) (own : List (Addr × Obj)) (j : Nat) (v : Value) : Prop := ∃ o dx x, v = .ref o ∧ (o, instK k.K dx x) ∈ own ∧ (dx, emptyDict) ∈ own ∧ vs[j]? = some (.ref x)
theorem sortK {k : Kd} {m16 : Mt (qualOf "__init__")} {m24 : Mt (qualOf "__lt__")} {cell l : Addr} {oc : Obj} {vn : Value} {vs : List Value} {us : Nat → Str} {rk : Nat → Nat} {dp un : Nat} {gd : Option (List Code)} {cn : Str} {cs : Scope} {a : Addr} {ccd : Value} {cl : List (Str × Addr)} {outer : List Env} {A₀ : Around} {base h₀ : Heap} {L : Addr} {m : Str → Option Value} {news : List (Addr × Obj)} {s : Shared} {Q E : Value → Shared → Prop}
    (B : Below A₀ base outer h₀) (F : Fr h₀ L s.heap m) (X : (Mine.hd.heap_1 w.params).In h₀) (N : News h₀ L s.heap news) (T : Top p loose mean mg mb h₀) (hk : cs.kind = .function)
    (hneed : ∀ q ∈ k.fr, q ∈ news) (hm16 : (m16.fc, m16.of) ∈ news) (hm24 : (m24.fc, m24.of) ∈ news)
    (h16 : (k.f16, oFn k.d16) = (m16.f, m16.fn ⟨(ctk (p := p) (loose := loose) (w := w) (mean := mean) (mg := mg) (mb := mb)).p16, (ctk (p := p) (loose := loose) (w := w) (mean := mean) (mg := mg) (mb := mb)).b16, (ctk (p := p) (loose := loose) (w := w) (mean := mean) (mg := mg) (mb := mb)).s16, (ctk (p := p) (loose := loose) (w := w) (mean := mean) (mg := mg) (mb := mb)).q16, []⟩ vn))
    (h24 : (k.f24, oFn k.d24) = (m24.f, m24.fn ⟨(ctk (p := p) (loose := loose) (w := w) (mean := mean) (mg := mg) (mb := mb)).p24, (ctk (p := p) (loose := loose) (w := w) (mean := mean) (mg := mg) (mb := mb)).b24, (ctk (p := p) (loose := loose) (w := w) (mean := mean) (mg := mg) (mb := mb)).s24, (ctk (p := p) (loose := loose) (w := w) (mean := mean) (mg := mg) (mb := mb)).q24, [("mycmp", cell)]⟩ vn)) (hcell : (cell, oc) ∈ news) (hoc : oc.data = .cell (some (.ref 207)))
    (hl : s.heap.IsList l vs.toArray) (h2 : 2 ≤ vs.length) (h64 : vs.length < 64)
    (hvs : ∀ i v, vs[i]? = some v → ∃ x t1 t2 j n, v = .ref x ∧ (x, listOf #[.str (us i) t1, .int j t2] n) ∈ news)
    (hrk : ∀ i j, i < vs.length → j < vs.length → decide (cmpInt (us i) (us j) < 0) = Le rk i j)
    (hd : dp + 20 < recursionLimit) (hu : un + 300 < cLine)
    (ret : ∀ D (p : Array Nat) h' tk c, p.Perm (List.range vs.length).toArray → Up rk p vs.length → Fr h₀ L h' m → News h₀ L h' ((D, listOf (p.toList.map fun i => vs.getD i Value.none).toArray c) :: news) → (∀ q ∈ news, q.1 < D) → Q (.ref D) { s with heap := h', toks := tk }) :
    wpAny (model PySem.Challenge.rw_ik0191_01.row.prog w) (ktrTop dp un gd cn cs L a ccd cl outer) (call (.builtin "sorted") [.ref l] [("key", .ref k.K)]) Q E s := by
  have n16 : k.d16.name = "__init__" := by
    obtain ⟨e1, e2⟩ := Prod.mk.inj h16
    have e3 : k.d16 = fnX "__init__" _ _ _ _ _ _ _ _ _ _ _ _ := Data.func.inj (congrArg Obj.data e2)
    rw [e3]
  have n24 : k.d24.name = "__lt__" := by
    obtain ⟨e1, e2⟩ := Prod.mk.inj h24
    have e3 : k.d24 = fnX "__lt__" _ _ _ _ _ _ _ _ _ _ _ _ := Data.func.inj (congrArg Obj.data e2)
    rw [e3]
  refine sorted_ (rk := rk) (T := .ref k.K) (G := KeyAt k vs) rfl F N hl h2 h64 ?gm (by rfl) (by simp) ?turn ?hT ?cmp ret
  case gm =>
    rintro o o' j v hs ⟨x, dx, y, e, h1, h2, h3⟩
    exact ⟨x, dx, y, e, hs _ h1, hs _ h2, h3⟩
  case turn =>
    intro j v hv h tk led hsub F' N'
    obtain ⟨x, t1, t2, i, n, rfl, hx⟩ := hvs j v hv
    refine K_call (un := un + 2) B F' X N' T hk (fun q hq => hsub _ (hneed q hq)) (hsub _ hm16) h16 n24 (by (exact Ar.go [_, _] [(.P (.P (.V 0) (.N 20)) (.N 1), .V 1, 1)] 1 (.P (.P (.V 0) (.N 20)) (.N 1)) (.V 1) rfl hd)) (by (exact Ar.go [_, _] [(.P (.P (.V 0) (.N 300)) (.N 1), .V 1, 1)] 1 (.P (.P (.P (.V 0) (.N 2)) (.N 200)) (.N 1)) (.V 1) rfl hu)) fun o dx h' tk' F2 N2 lt lt2 => ?_
    refine ⟨h', tk', [(o, instK k.K dx x), (dx, emptyDict)], rfl, F2, N2, fun p hp q hq => ?_, o, dx, x, rfl, .head _, .tail _ (.head _), hv⟩
    rcases List.mem_cons.mp hp with rfl | hp
    · exact Nat.lt_trans (lt q hq) lt2
    · rw [List.mem_singleton.mp hp]; exact lt q hq
  case hT =>
    rintro h inst led j v N' hs ⟨o, dx, x, rfl, h1, h2, h3⟩
    exact (Looks.ld (part := none) (N' _ (hs _ h1)).1).andThen .now
  case cmp =>
    rintro i j u v inst led h tk C hi hj ⟨o1, dx1, x1, rfl, g1, g2, g3⟩ ⟨o2, dx2, x2, rfl, f1, f2, f3⟩ hs hn F' N' hC
    obtain ⟨y1, t1, t2, i1, n1, e1, hx1⟩ := hvs i _ g3
    obtain ⟨y2, t3, t4, i2, n2, e2, hx2⟩ := hvs j _ f3
    cases e1; cases e2
    have x0 : ∀ q ∈ k.fr, h.get? q.1 = some q.2 := fun q hq => (N' q (hn _ (hneed q hq))).1
    have D := Kd_dis x0 n16 n24
    refine lt_inst (by show un + 1 + 1 < cLine; (exact Ar.go [_, _] [(.P (.P (.V 0) (.N 300)) (.N 1), .V 1, 1)] 1 (.P (.P (.P (.V 0) (.N 1)) (.N 1)) (.N 1)) (.V 1) rfl hu)) (Kd_In x0) (od := some emptyDict) ⟨(N' _ (hs _ g1)).1, rfl, rfl, (N' _ (hs _ g2)).1⟩ (kf_lt D) (kf_fn24 D) ?_
    refine lt_K (un := un + 2) B F' X N' T hk (fun q hq => hn _ (hneed q hq)) (hn _ hm24) h24 n16 (hn _ hcell) hoc (hs _ g1) (hs _ g2) (hs _ f1) (hs _ f2) (hn _ hx1) (hn _ hx2) (by (exact Ar.go [_, _] [(.P (.P (.V 0) (.N 20)) (.N 1), .V 1, 1)] 1 (.P (.P (.V 0) (.N 20)) (.N 1)) (.V 1) rfl hd)) (by (exact Ar.go [_, _] [(.P (.P (.V 0) (.N 300)) (.N 1), .V 1, 1)] 1 (.P (.P (.P (.V 0) (.N 2)) (.N 200)) (.N 1)) (.V 1) rfl hu)) fun h' tk' F2 N2 => ?_
    show C (decide (cmpInt (us i) (us j) < 0)) _
    rw [hrk i j hi hj]
    exact hC h' tk' F2 N2
end Mine
end
section
open Mine.h30 Mine.h15 Mine.h3 Mine.h4 Mine.h16 Mine.h18
open PySem PySem.Spec PySem.Calls PySem.W PyProof.Rows
namespace Mine
variable {p : Program} {loose : List Str} {w : World} {mean : ExcName → Option Value} {mg mb : Str → Option Value}

set_option maxHeartbeats 0
structure LawLit where
  params : Arguments
  body : List Stmt
  scope : Scope
  h : PySem.Challenge.rw_ik0191_01.row.prog.theDef "law" = some (params, body, scope)
noncomputable def lawLit : LawLit := ⟨_, _, _, rfl⟩
theorem specF_use {f : Addr} {dD dU : Nat} {args : List Value} {need : List (Addr × Obj)} {Ret : (Value → List (Addr × Obj) → Prop) → Prop}
    {dp un : Nat} {gd : Option (List Code)} {cn : Str} {cs : Scope} {a : Addr} {ccd : Value} {cl : List (Str × Addr)} {outer : List Env} {A₀ : Around} {base h₀ : Heap} {L : Addr} {m : Str → Option Value} {news : List (Addr × Obj)} {s : Shared} {Q E : Value → Shared → Prop}
    (C : SpecF p loose w mean mg mb f dD dU args need Ret) (B : Below A₀ base outer h₀) (F : Fr h₀ L s.heap m) (X : (Mine.hd.heap_1 w.params).In h₀) (N : News h₀ L s.heap news) (T : Top p loose mean mg mb h₀) (hk : cs.kind = .function) (hn : ∀ q ∈ need, q ∈ news)
    (hd : dp + dD < recursionLimit) (hu : un + dU < cLine)
    (ret : Ret (fun r tl => (∀ q ∈ tl, ∀ p ∈ news, p.1 ≠ q.1) → ∀ h' tk', Fr h₀ L h' m → News h₀ L h' (tl ++ news) → Q r { s with heap := h', toks := tk' })) :
    wpAny (model PySem.Challenge.rw_ik0191_01.row.prog w) (ktrTop dp un gd cn cs L a ccd cl outer) (call (.ref f) args) Q E s :=
  C _ _ _ _ _ _ _ _ _ _ _ _ _ _ _ _ _ _ B F X N T hk hn hd hu ret
noncomputable abbrev numsOf (ns : List Int) : List Int := ns.take 4 ++ [110, 98, 347, 4, 98]
theorem RowsIn.snoc {led : List (Addr × Obj)} {vs us : List Value} {rs : List (List Str)} {r : List Str} {a : Addr} {k : Nat} (h : RowsIn led vs rs) (hS : StrsAre us r) : RowsIn ((a, listOf us.toArray k) :: led) (vs ++ [.ref a]) (rs ++ [r]) := by
  refine ⟨by simp [h.1], fun i q hq => ?_⟩
  by_cases hi : i < rs.length
  · rw [List.getElem?_append_left hi] at hq
    obtain ⟨b, ws, n, h1, h2, h3⟩ := h.2 i q hq
    exact ⟨b, ws, n, by rw [List.getElem?_append_left (by rw [h.1]; exact hi)]; exact h1, List.mem_cons_of_mem _ h2, h3⟩
  · have hl : i = rs.length := by
      have := (List.getElem?_eq_some_iff.mp hq).1
      simp at this; (exact Nat.le_antisymm (Ar.go [_, _] [(.P (.V 0) (.N 1), .P (.V 1) (.N 1), 1)] 1 (.V 0) (.V 1) rfl this) (Ar.go [_, _] [(.V 0, .V 1, 1)] 1 (.V 0) (.V 1) rfl (Nat.le_of_not_lt hi)))
    subst hl
    simp at hq
    subst hq
    exact ⟨a, us, k, by rw [← h.1]; simp, List.mem_cons_self, hS⟩
noncomputable def Apart (L : Addr) (own : List (Addr × Obj)) : Prop := ∀ p ∈ own, ((@Ne Nat p.1 (L + 1)) ∧ (@Ne Nat p.1 30))
theorem Apart.cons {L a : Addr} {o : Obj} {own : List (Addr × Obj)} (h : Apart L own) (h1 : @Ne Nat a (L + 1)) (h2 : @Ne Nat a 30) : Apart L ((a, o) :: own) := fun p hp => by
  rcases List.mem_cons.mp hp with rfl | hp
  · exact ⟨h1, h2⟩
  · exact h p hp
theorem sub_new {x i c d : Addr × Obj} {l : List (Addr × Obj)} : ∀ q ∈ i :: c :: d :: x :: l, q ∈ [x] ++ i :: c :: d :: l := fun q hq => by
  exact sub_c (.tail _ (.head _)) (sub_c (.tail _ (.tail _ (.head _))) (sub_c (.tail _ (.tail _ (.tail _ (.head _)))) (sub_c (.head _) fun p h => .tail _ (.tail _ (.tail _ (.tail _ h)))))) q hq
theorem map_push (x : Str) (v : Value) (l : List (Str × Value)) : (fun z => if z = x then some v else (fun y => List.lookup y l) z) = fun y => List.lookup y ((x, v) :: l) := by
  funext z
  by_cases h : z = x
  · subst h; simp [List.lookup]
  · have : (z == x) = false := by simpa using h
    simp [List.lookup, this, h]
noncomputable abbrev envL (L a : Addr) (ccd : Value) : Env := envX "law" lawLit.scope L a ccd [(("turned" : Str), L + 1)]
noncomputable abbrev lawTop (dp un : Nat) (gd : Option (List Code)) (L a : Addr) (ccd : Value) (outer : List Env) : Around := ktrTop dp un gd "law" lawLit.scope L a ccd [(("turned" : Str), L + 1)] outer
theorem law_rows {dp un : Nat} {gd : Option (List Code)} {l a L : Addr} {ccd : Value} {outer : List Env} {A₀ : Around} {base h₀ : Heap} {s : Shared} {vs : List Value} {ns : List Int} {cT : Obj} {Q : Flow → Shared → Prop} {E : Value → Shared → Prop}
    (B : Below A₀ base outer h₀) (F : Fr h₀ L s.heap (fun y => List.lookup y [(("script" : Str), Value.ref l)])) (X : (Mine.hd.heap_1 w.params).In h₀) (N : News h₀ L s.heap [(L + 1, cT), (30, tabObj #[])]) (T : Top p loose mean mg mb h₀)
    (hl : h₀.IsList l vs.toArray) (hi : IntsAre vs ns) (hz : vs.length ≤ 63) (hd : dp + 600 < recursionLimit) (hu : un + 3000 < cLine)
    (next : ∀ D ys own h' tk', Fr h₀ L h' (fun y => List.lookup y [(("rows" : Str), Value.ref D), (("script" : Str), Value.ref l)]) → News h₀ L h' (own ++ [(L + 1, cT), (30, tabObj #[])]) → Apart L own → (D, LCg.lst ys) ∈ own → RowsIn own ys ((numsOf ns).map rowOf) →
      wpG (model PySem.Challenge.rw_ik0191_01.row.prog w) (lawTop dp un gd L a ccd outer) (execs (lawLit.body.drop 1) (envL L a ccd)) Q E { s with heap := h', toks := tk' }) :
    wpG (model PySem.Challenge.rw_ik0191_01.row.prog w) (lawTop dp un gd L a ccd outer) (execs lawLit.body (envL L a ccd)) Q E s := by
  revert X; k_fill; intro X
  obtain ⟨hh, g, d, t, os⟩ := s
  dsimp only at F N
  dsimp only [lawLit, lawTop, envL]
  refine wpG_execs_then ?_
  k_steps
  refine Halt.go ?_
  refine LCg.Assign_ListComp_U (F₀ := F) rfl (by with_unfolding_all rfl) (by with_unfolding_all rfl) (by decide) (by rfl) (by decide) (by rfl) (by rfl) (by rfl) ?_
  k_steps
  refine Halt.go ?_
  rename News _ _ _ _ => N2
  rename Fr _ _ _ _ => F2
  rename IntsAre _ (List.take 4 ns ++ _) => I2
  have hz2 : (numsOf ns).length ≤ 9 := by simp [numsOf]; (exact Ar.go [_] [(.V 0, .N 4, 1)] 1 (.V 0) (.N 4) rfl (Nat.min_le_left _ _))
  have hlen := I2.length
  refine LCg.CompSrc.ledger rfl F2 N2 (.head _) (by rw [List.size_toArray, sizeLine_eq, hlen]; exact Nat.le_trans hz2 (by decide)) ?_
  intro g9
  dsimp only
  refine comp_inv (fun i ys nw => ∃ own, nw = own ++ _ ∧ RowsIn own ys (((numsOf ns).take i).map rowOf) ∧ Apart L own) ⟨[], rfl, ⟨rfl, fun i r h => by simp at h⟩, fun _ h => nomatch h⟩ ?turn ?fin
  case turn =>
    intro i v I oI C oC D m₂ ys nw h9 tk9 E9 hi9 hJ hv hC hx9 F9 N9 off ne
    obtain ⟨own, rfl, hr, hA⟩ := hJ
    have hi2 : i < (numsOf ns).length := by rw [← hlen]; simpa using hi9
    obtain ⟨tv, htv⟩ := I2.get i _ (List.getElem?_eq_getElem hi2)
    obtain rfl : v = .int ((numsOf ns)[i]) tv := by
      have : _ = some v := hv
      rw [List.getElem?_toArray, htv] at this
      exact (Option.some.inj this).symm
    k_steps
    refine Halt.go ?_
    refine specF_use (names_specF _ _) (by k_asm) F9 (by k_asm) N9 (by k_asm) rfl (fun _ h => nomatch h) (by (exact Ar.go [_, _] [(.P (.P (.V 0) (.N 600)) (.N 1), .V 1, 1)] 1 (.P (.P (.V 0) (.N 8)) (.N 1)) (.V 1) rfl hd)) (by (exact Ar.go [_, _] [(.P (.P (.V 0) (.N 3000)) (.N 1), .V 1, 1)] 1 (.P (.P (.V 0) (.N 80)) (.N 1)) (.V 1) rfl hu)) ?_
    intro a8 us k8 hS fr h8 tk8 F8 N8
    have fr1 := fun p hp => (fr (a8, listOf us.toArray k8) List.mem_cons_self p hp).symm
    refine LCg.CompEnd.intro F8 N8 ((a8, listOf us.toArray k8) :: (own ++ _)) sub_new ⟨⟨fr1 _ (.head _), fr1 _ (.tail _ (.head _)), fr1 _ (.tail _ (.tail _ (.head _)))⟩, off⟩ (.inr ⟨_, List.mem_cons_of_mem _ (List.mem_append_right _ (.head _)), rfl, _, rfl⟩) ⟨(a8, listOf us.toArray k8) :: own, rfl, ?_, ?_⟩
    · rw [List.take_add_one, List.getElem?_eq_getElem hi2, Option.toList_some, List.map_append]
      exact hr.snoc hS
    · refine hA.cons ?_ ?_
      · exact fr1 (L + 1, cT) (.tail _ (.tail _ (.tail _ (List.mem_append_right _ (.tail _ (.tail _ (.tail _ (.head _))))))))
      · exact fr1 (30, tabObj #[]) (.tail _ (.tail _ (.tail _ (List.mem_append_right _ (.tail _ (.tail _ (.tail _ (.tail _ (.head _)))))))))
  case fin =>
    rintro ys nw ⟨own, rfl, hr, hA⟩
    rw [List.take_of_length_le (by simp at hlen; simp; (exact Ar.go [_, _] [(.P (.V 0) (.N 5), .V 1, 1)] 1 (.P (.V 0) (.N 5)) (.V 1) rfl (Nat.le_of_eq hlen.symm)))] at hr
    intro D5 h5 tk5 F5 N5 o5
    dsimp only
    rename_i l3 hc hl2 l4 D2 ws2 h2 l2 D3 ws3 h3 l1
    have o6 := off1_mem o5
    rw [map_push] at F5
    have e9 : ∀ x y z u v : Addr × Obj, own ++ [x, y, z, u, v] = (own ++ [x, y, z]) ++ [u, v] := by simp
    rw [e9, ← List.cons_append] at N5
    rw [e9] at o6
    have oT := o6 (L + 1, cT) (List.mem_append_right _ (.head _))
    have o3 := o6 (30, tabObj #[]) (List.mem_append_right _ (.tail _ (.head _)))
    refine next D5 ys _ _ _ F5 N5 (Apart.cons (fun q hq => ?_) (Ne.symm oT) (Ne.symm o3)) (.head _) ?_
    · rcases List.mem_append.mp hq with hq | hq
      · exact hA q hq
      · simp only [List.mem_cons, List.not_mem_nil, or_false] at hq
        rcases hq with rfl | rfl | rfl
        · exact ⟨Nat.ne_of_gt l1.2.2.1, Nat.ne_of_gt l1.2.2.2⟩
        · exact ⟨Nat.ne_of_gt l2.2.1, Nat.ne_of_gt l2.2.2⟩
        · exact ⟨Nat.ne_of_gt D2.1, Nat.ne_of_gt D2.2⟩
    · exact hr.mono fun q hq => .tail _ (List.mem_append_left _ hq)
end Mine
end
section
open Mine.h30 Mine.h15 Mine.h3 Mine.h4 Mine.h16 Mine.h18
open PySem PySem.Spec PySem.Calls PySem.W PyProof.Rows
namespace Mine
variable {p : Program} {loose : List Str} {w : World} {mean : ExcName → Option Value} {mg mb : Str → Option Value}

set_option maxHeartbeats 0
theorem strs_push {vs : List Value} {xs : List Str} {x : Str} {t : Tok} (h : StrsAre vs xs) : StrsAre (vs ++ [.str x t]) (xs ++ [x]) := by
  induction h with
  | nil => exact .cons _ _ .nil
  | cons y t _ ih => exact .cons _ _ ih
theorem law_paths {dp un : Nat} {gd : Option (List Code)} {a L D : Addr} {ccd : Value} {outer : List Env} {A₀ : Around} {base h₀ : Heap} {s : Shared} {ys : List Value} {rs : List (List Str)} {own : List (Addr × Obj)} {ml : List (Str × Value)} {cT : Obj} {Q : Flow → Shared → Prop} {E : Value → Shared → Prop}
    (B : Below A₀ base outer h₀) (F : Fr h₀ L s.heap (fun y => List.lookup y ((("rows" : Str), Value.ref D) :: ml))) (X : (Mine.hd.heap_1 w.params).In h₀) (N : News h₀ L s.heap (own ++ [(L + 1, cT), (30, tabObj #[])])) (T : Top p loose mean mg mb h₀)
    (hA : Apart L own) (hD : (D, LCg.lst ys) ∈ own) (hr : RowsIn own ys rs) (hok : ∀ r ∈ rs, RowOk r) (hz : rs.length ≤ 9) (hd : dp + 600 < recursionLimit) (hu : un + 3000 < cLine)
    (next : ∀ D2 zs h' tk', Fr h₀ L h' (fun y => List.lookup y ((("paths" : Str), Value.ref D2) :: (("rows" : Str), Value.ref D) :: ml)) → News h₀ L h' (((D2, LCg.lst zs) :: own) ++ [(L + 1, cT), (30, tabObj #[])]) → Apart L ((D2, LCg.lst zs) :: own) → StrsAre zs (rs.map pathOf) →
      wpG (model PySem.Challenge.rw_ik0191_01.row.prog w) (lawTop dp un gd L a ccd outer) (execs (lawLit.body.drop 2) (envL L a ccd)) Q E { s with heap := h', toks := tk' }) :
    wpG (model PySem.Challenge.rw_ik0191_01.row.prog w) (lawTop dp un gd L a ccd outer) (execs (lawLit.body.drop 1) (envL L a ccd)) Q E s := by
  revert X; k_fill; intro X
  obtain ⟨hh, g, d, t, os⟩ := s
  dsimp only at F N
  dsimp only [lawLit, lawTop, envL, List.drop_succ_cons, List.drop_zero]
  refine wpG_execs_then ?_
  k_steps
  refine Halt.go ?_
  refine LCg.Assign_ListComp_U (F₀ := F) rfl (by with_unfolding_all rfl) (by with_unfolding_all rfl) (by decide) (by rfl) (by decide) (by rfl) (by rfl) (by rfl) ?_
  k_steps
  refine Halt.go ?_
  refine LCg.CompSrc.ledger (its := ys.toArray) rfl F N (List.mem_append_left _ hD) (by rw [List.size_toArray, sizeLine_eq, hr.1]; exact Nat.le_trans hz (by decide)) ?_
  intro g9
  dsimp only
  refine comp_inv (fun i zs nw => nw = _ ∧ StrsAre zs ((rs.take i).map pathOf)) ⟨rfl, .nil⟩ ?turn ?fin
  case turn =>
    intro i v I oI C oC D2 m₂ zs nw h9 tk9 E9 hi9 hJ hv hC hx9 F9 N9 off ne
    obtain ⟨rfl, hS⟩ := hJ
    have hi2 : i < rs.length := by rw [← hr.1]; simpa using hi9
    have hri : rs[i]? = some rs[i] := List.getElem?_eq_getElem hi2
    refine hr.row hri fun b us n h1 h2 h3 => ?_
    obtain rfl : v = .ref b := by
      have : _ = some v := hv
      rw [List.getElem?_toArray, h1] at this
      exact (Option.some.inj this).symm
    have hO := hok _ (List.getElem_mem hi2)
    have hP := path_ok hO
    k_steps
    refine Halt.go ?_
    refine spec_use (path_spec b us n rs[i] h3 hO.2.1 (fun x hx => by rw [(lets_ok (hO.2.2 x hx)).1]; decide) (fun x hx => (lets_ok (hO.2.2 x hx)).2) _ hP.1 _ hP.2) (by k_asm) F9 (by k_asm) N9 (by k_asm) rfl
      (fun q hq => by rw [List.mem_singleton.mp hq]; exact .tail _ (.tail _ (.tail _ (List.mem_append_left _ h2)))) (by (exact Ar.go [_, _] [(.P (.P (.V 0) (.N 600)) (.N 1), .V 1, 1)] 1 (.P (.P (.V 0) (.N 20)) (.N 1)) (.V 1) rfl hd)) (by (exact Ar.go [_, _] [(.P (.P (.V 0) (.N 3000)) (.N 1), .V 1, 1)] 1 (.P (.P (.V 0) (.N 200)) (.N 1)) (.V 1) rfl hu)) ?_
    intro t8 h8 tk8 F8 N8
    refine LCg.CompEnd.intro F8 N8 (own ++ _) (fun _ h => h) off (.inr ⟨_, List.mem_append_left _ hD, rfl, _, rfl⟩) ⟨rfl, ?_⟩
    rw [List.take_add_one, hri, Option.toList_some, List.map_append]
    exact strs_push hS
  case fin =>
    rintro zs nw ⟨rfl, hS⟩
    rw [List.take_of_length_le (by have := hr.1; simp; (exact Ar.go [_, _] [(.V 0, .V 1, 1)] 1 (.V 0) (.V 1) rfl (Nat.le_of_eq this.symm)))] at hS
    intro D5 h5 tk5 F5 N5 o5
    have o6 := off1_mem o5
    rw [map_push] at F5
    exact next D5 zs _ _ F5 N5 (hA.cons (Ne.symm (o6 _ (List.mem_append_right _ (.head _)))) (Ne.symm (o6 _ (List.mem_append_right _ (.tail _ (.head _)))))) hS
end Mine
end
section
open PySem PySem.Calls PySem.W PyProof.Rows
namespace Mine
section
variable {M : Model} {A : Around} {E : Value → Shared → Prop} {s : Shared} {env : Env}
theorem wpG_spliced_more {e : Expr} {rest : List Expr} {pos : Pos} {Q : List Value → Shared → Prop}
    (h : wpG M A (eval e env) (fun v s₁ => wpG M A (spliced (backTo pos (starEach rest env))) (fun vs s₂ => Q (v :: vs) s₂) E s₁) E s)
    (he : starEach (e :: rest) env = (false, eval e env) :: starEach rest env := by rfl) : wpG M A (spliced (backTo pos (starEach (e :: rest) env))) Q E s := by
  rw [he]
  show wpG M A (do
    let v ← eval e env
    let here ← pure [v]
    return here ++ (← holding here (spliced (backTo pos (starEach rest env))))) Q E s
  exact wpG_bind (wpG_mono h (fun v s₁ h₁ => wpG_then (wpAny_pure (wpG_bind (wpG_holding (wpG_mono h₁ (fun vs s₂ h₂ => wpG_pure h₂) fun _ _ x => x))))) fun _ _ x => x)
theorem wpG_Tuple {elts : List Expr} {k : Nat} {pos : Pos} {Q : Value → Shared → Prop}
    (h : wpG M A (spliced (backTo pos (starEach elts env))) (fun vs s₁ => wpAny M A (newTuple vs) Q E s₁) E s) : wpG M A (eval (.Tuple elts k pos) env) Q E s := by
  show wpG M A (do standAt pos; newTuple (← spliced (backTo pos (starEach elts env)))) Q E s
  exact wpG_then (wpAny_standAt (wpG_bind (wpG_mono h (fun _ _ x => wpG_any x) fun _ _ x => x)))
theorem wpG_Assign_Tuple {elts k tpos value pos} {Q : Flow → Shared → Prop}
    (h : wpG M A (eval value env) (fun v s₁ => wpAny M A (assign (.Tuple elts k tpos) env v) (fun _ => Q .next) E s₁) E s)
    (hs : swapsWithSole [.Tuple elts k tpos] value pos.line env = pure false := by rfl)
    (hw : swappedStores [.Tuple elts k tpos] value env = pure none := by rfl) :
    wpG M A (exec (.Assign [.Tuple elts k tpos] value pos) env) Q E s := by
  rw [exec_Assign]
  refine wpG_then (wpAny_standAt ?_)
  rw [hs]
  refine wpG_then (wpAny_pure ?_)
  rw [if_neg (by decide)]
  refine wpG_bind (wpG_mono h (fun v s₁ h₁ => ?_) fun _ _ x => x)
  rw [hw]
  refine wpG_then (wpAny_pure ?_)
  show wpG M A (do assignAll v [assign (.Tuple elts k tpos) env]; pure .next) Q E s₁
  exact wpG_any (wpAny_bind (wpAny_mono h₁ (fun _ _ x => wpAny_pure x) fun _ _ x => x))
end
end Mine
end
section
open Mine.h30 Mine.h15 Mine.h3 Mine.h4 Mine.h16 Mine.h25 Mine.h18
open PySem PySem.Spec PySem.Calls PySem.W PyProof.Rows
namespace Mine
variable {p : Program} {loose : List Str} {w : World} {mean : ExcName → Option Value} {mg mb : Str → Option Value}

set_option maxHeartbeats 0
theorem law_turned {dp un : Nat} {gd : Option (List Code)} {a L D D2 : Addr} {ccd : Value} {outer : List Env} {A₀ : Around} {base h₀ : Heap} {s : Shared} {ys zs : List Value} {rs : List (List Str)} {own : List (Addr × Obj)} {ml : List (Str × Value)} {cT : Obj} {Q : Flow → Shared → Prop} {E : Value → Shared → Prop}
    (B : Below A₀ base outer h₀) (F : Fr h₀ L s.heap (fun y => List.lookup y ((("paths" : Str), Value.ref D2) :: (("rows" : Str), Value.ref D) :: ml))) (X : (Mine.hd.heap_1 w.params).In h₀) (N : News h₀ L s.heap (own ++ [(L + 1, cT), (30, tabObj #[])])) (T : Top p loose mean mg mb h₀)
    (hA : Apart L own) (hD : (D, LCg.lst ys) ∈ own) (hr : RowsIn own ys rs) (hD2 : (D2, LCg.lst zs) ∈ own) (hS : StrsAre zs (rs.map pathOf)) (hok : ∀ r ∈ rs, RowOk r) (hz : rs.length ≤ 9) (hL : (30 : Nat) < L) (hcT : cT.data = .cell none) (hd : dp + 600 < recursionLimit) (hu : un + 3000 < cLine)
    (next : ∀ D3 us D4 ws own' cT' h' tk', Fr h₀ L h' (fun y => List.lookup y ((("due" : Str), Value.ref D4) :: (("paths" : Str), Value.ref D2) :: (("rows" : Str), Value.ref D) :: ml)) → News h₀ L h' (own' ++ [(L + 1, cT'), (30, tabObj #[])]) → cT'.data = .cell (some (.ref D3)) → Apart L own' → (∀ q ∈ own, q ∈ own') → (D3, LCg.lst us) ∈ own' → (D4, LCg.lst ws) ∈ own' → StrsAre us (rs.map fun r => pathOf r.reverse) → StrsAre ws (rs.map fun r => pathOf r.reverse) →
      wpG (model PySem.Challenge.rw_ik0191_01.row.prog w) (lawTop dp un gd L a ccd outer) (execs (lawLit.body.drop 3) (envL L a ccd)) Q E { s with heap := h', toks := tk' }) :
    wpG (model PySem.Challenge.rw_ik0191_01.row.prog w) (lawTop dp un gd L a ccd outer) (execs (lawLit.body.drop 2) (envL L a ccd)) Q E s := by
  revert X; k_fill; intro X
  obtain ⟨hh, g, d, t, os⟩ := s
  dsimp only at F N
  dsimp only [lawLit, lawTop, envL, List.drop_succ_cons, List.drop_zero]
  replace N : News h₀ L hh ((L + 1, cT) :: (30, tabObj #[]) :: own) := fun q hq => N q (by
    exact sub_c (List.mem_append_right _ (.head _)) (sub_c (List.mem_append_right _ (.tail _ (.head _))) fun p h => List.mem_append_left _ h) q hq)
  have hall : ∀ q ∈ (30, tabObj #[]) :: own, q.1 ≠ L + 1 := fun q hq => by
    rcases List.mem_cons.mp hq with rfl | hq
    · exact Nat.ne_of_lt (Nat.lt_succ_of_lt hL)
    · exact (hA q hq).1
  have hzl : zs.length = rs.length := by rw [strs_len hS, List.length_map]
  refine wpG_execs_cons (wpG_Assign_Tuple (wpG_Tuple (wpG_spliced_more (ListComp_open (by with_unfolding_all rfl) (by rfl) (by decide) ?_))))
  k_steps
  refine CompAt.go (vs := zs) (J := fun i us => us.length = i ∧ StrsAre us ((rs.take i).map fun r => pathOf r.reverse)) rfl F N (.tail _ (.tail _ hD2)) (by (exact Ar.go [_, _] [(.V 1, .N 9, 1), (.V 0, .V 1, 1)] 1 (.V 0) (.N 1000) rfl hz (Nat.le_of_eq hzl))) (by decide) (by rfl) (by rfl) (fun i us h => h.1) ⟨rfl, .nil⟩ ?turn ?fin
  case turn =>
    intro i v us I oI C oC D5 m₂ h9 tk9 hv hJ hC hx9 F9 N9 off ne
    obtain ⟨hul, hus⟩ := hJ
    have hi2 : i < rs.length := by rw [← hzl]; exact (List.getElem?_eq_some_iff.mp hv).1
    have hri : rs[i]? = some rs[i] := List.getElem?_eq_getElem hi2
    obtain ⟨tv, rfl⟩ : ∃ t, v = .str (pathOf rs[i]) t := by
      obtain ⟨t, ht⟩ := strs_at hS i (pathOf rs[i]) (by rw [List.getElem?_map, hri]; rfl)
      rw [hv] at ht
      exact ⟨t, Option.some.inj ht⟩
    have hO := hok _ (List.getElem_mem hi2)
    have hT := text_ok hO
    refine wpG_Call (a := 190) rfl ?_
    k_steps
    refine DefCall.go F9 (by k_asm) (by k_is) ?_
    refine specG_use (turned_spec (pathOf rs[i]) _ (Nat.le_trans hT.len (by decide)) hT.pos hT.three hT.ascii) (by k_asm) F9 (by k_asm) N9 (by k_asm) rfl (fun _ h => nomatch h) (by (exact Ar.go [_, _] [(.P (.P (.V 0) (.N 600)) (.N 1), .V 1, 1)] 1 (.P (.P (.V 0) (.N 30)) (.N 1)) (.V 1) rfl hd)) (by (exact Ar.go [_, _] [(.P (.P (.V 0) (.N 3000)) (.N 1), .V 1, 1)] 1 (.P (.P (.V 0) (.N 400)) (.N 1)) (.V 1) rfl hu)) ?_
    intro t8 h8 tk8 F8 N8
    rw [turn_ok hO]
    refine ⟨_, _, rfl, F8, N8, by simp [hul], ?_⟩
    rw [List.take_add_one, hri, Option.toList_some, List.map_append]
    exact strs_push hus
  case fin =>
    intro D3 us h3 tk3 hJ F3 N3 o3
    obtain ⟨hul, hus⟩ := hJ
    rw [List.take_of_length_le (by (exact Ar.go [_, _] [(.V 0, .V 1, 1)] 1 (.V 0) (.V 1) rfl (Nat.le_of_eq hzl.symm)))] at hus
    have o3m := off1_mem o3
    dsimp only
    refine wpG_any ?_
    k_steps
    refine Halt.go ?_
    refine LCg.ListComp_U F3 (by with_unfolding_all rfl) (by decide) (by rfl) (by decide) (by rfl) ?_
    k_steps
    refine Halt.go ?_
    refine LCg.CompSrc.ledger (its := ys.toArray) rfl F3 N3 (.tail _ (.tail _ (.tail _ hD))) (by rw [List.size_toArray, sizeLine_eq, hr.1]; exact Nat.le_trans hz (by decide)) ?_
    intro g9
    dsimp only
    refine comp_inv (fun i ws nw => nw = _ ∧ StrsAre ws ((rs.take i).map fun r => pathOf r.reverse)) ⟨rfl, .nil⟩ ?turn4 ?fin4
    case turn4 =>
      intro i v I oI C oC D6 m₂ ws nw h9 tk9 E9 hi9 hJ hv hC hx9 F9 N9 off ne
      obtain ⟨rfl, hW⟩ := hJ
      have hi2 : i < rs.length := by rw [← hr.1]; simpa using hi9
      have hri : rs[i]? = some rs[i] := List.getElem?_eq_getElem hi2
      refine hr.row hri fun b bs n h1 h2 h3 => ?_
      obtain rfl : v = .ref b := by
        have : _ = some v := hv
        rw [List.getElem?_toArray, h1] at this
        exact (Option.some.inj this).symm
      have hO := hok _ (List.getElem_mem hi2)
      have hbl := strs_len h3
      have hb4 := hO.2.1
      k_steps
      refine Halt.go ?_
      refine rev_led (s := ⟨_, _, _, _, _⟩) F9 N9 (vs := bs) (n := n) (.tail _ (.tail _ (.tail _ (.tail _ (.tail _ (.tail _ h2)))))) (by (exact Ar.go [_, _] [(.V 0, .V 1, 1), (.V 1, .N 4, 1)] 1 (.V 0) (.N 1000) rfl (Nat.le_of_eq hbl) hb4)) ?_
      intro D7 h7 l7 F7 N7
      dsimp only
      k_steps
      refine Halt.go ?_
      refine join_led N7 List.mem_cons_self (strs_rev h3) (join_ok hO.reverse) ?_
      intro t8 k8
      dsimp only
      k_steps
      have hlen := (text_ok hO.reverse).len
      unfold pathOf at hlen
      rw [Str.length_append] at hlen
      refine PyProof.Rows.add_str (fun t6 k6 => ?_) (by rw [sizeLine_eq]; (exact Ar.go [_, _] [(.P (.V 0) (.V 1), .N 12, 1)] 1 (.P (.V 0) (.V 1)) (.N 16777216) rfl hlen))
      refine LCg.CompEnd.intro F7 N7 ((D3, LCg.lst us) :: (L + 1, cT) :: (30, tabObj #[]) :: own) (fun q h => .tail _ h) off (.inr ⟨_, .tail _ (.tail _ (.tail _ hD)), rfl, _, rfl⟩) ⟨rfl, ?_⟩
      rw [List.take_add_one, hri, Option.toList_some, List.map_append]
      exact strs_push hW
    case fin4 =>
      rintro ws nw ⟨rfl, hW⟩
      rw [List.take_of_length_le (by have := hr.1; simp; (exact Ar.go [_, _] [(.V 0, .V 1, 1)] 1 (.V 0) (.V 1) rfl (Nat.le_of_eq this.symm)))] at hW
      intro D5 h5 tk5 F5 N5 o5
      have o6 := off1_mem o5
      k_steps
      rename_i D8 h8 l8 h10 F8 N8
      refine storeX_C F8 N8 rfl (UpdF.tail (Nat.ne_of_gt l8.2.2.1) (UpdF.tail (Ne.symm (o6 _ (.tail _ (.head _)))) (UpdF.tail (Ne.symm (o3m _ (.head _))) (UpdF.head hall)))) hcT ?_
      intro h11 o11 F11 N11 d11
      k_steps
      rename Fr _ _ _ _ => F12
      rename News _ _ _ _ => N12
      refine next D3 us D5 ws ((D5, LCg.lst ws) :: (D3, LCg.lst us) :: own) o11 _ _ (by rw [← map_push]; exact F12) (fun q hq => N12 q ?_) d11
        (Apart.cons (Apart.cons hA (Ne.symm (o3m _ (.head _))) (Ne.symm (o3m _ (.tail _ (.head _))))) (Ne.symm (o6 _ (.tail _ (.head _)))) (Ne.symm (o6 _ (.tail _ (.tail _ (.head _)))))) (fun q h => .tail _ (.tail _ h)) (.tail _ (.head _)) (.head _) hus hW
      simp only [List.mem_cons, List.mem_append, List.not_mem_nil, or_false] at hq ⊢
      rcases hq with (h | h | h) | h | h <;> simp [h]
end Mine
end
section
open Mine.h40 Mine.h39 Mine.h3
open PySem PySem.Calls PySem.W PyProof.Rows
namespace Mine
variable {p : Program} {loose : List Str} {w : World} {mean : ExcName → Option Value} {mg mb : Str → Option Value}
theorem tail_ne1 {l : List (Addr × Obj)} {L : Addr} (h : ∀ p ∈ l, p.1 < L) : ∀ p ∈ l, p.1 ≠ L + 1 := fun p hp => Nat.ne_of_lt (Nat.lt_succ_of_lt (h p hp))
local macro_rules | `(tactic| k_all) => `(tactic| exact tail_ne1 (by assumption))

set_option maxHeartbeats 4000000

noncomputable def wids (n i : Nat) : List Nat := ((List.range i).map (· + 1)).filter fun k => n % k == 0
noncomputable def WidsAre (n i : Nat) (ys : List Value) : Prop := ys.length = (wids n i).length ∧ ∀ (j : Nat) (v : Value), ys[j]? = some v → ∃ (k : Nat) (t : Tok), v = Value.int k t ∧ (wids n i)[j]? = some k
theorem wids_nil {n : Nat} : WidsAre n 0 [] := ⟨rfl, fun j v h => by simp at h⟩
theorem wids_yes {n i : Nat} {ys : List Value} {t : Tok} (h : WidsAre n i ys) (hd : n % (i + 1) = 0) : WidsAre n (i + 1) (ys ++ [Value.int (1 + (i : Int)) t]) := by
  rw [show (1 + (i : Int)) = ((i + 1 : Nat) : Int) by lia]
  have e : wids n (i + 1) = wids n i ++ [i + 1] := by unfold wids; rw [List.range_succ, List.map_append, List.filter_append]; simp [hd]
  obtain ⟨h1, h2⟩ := h
  refine ⟨by rw [e, List.length_append, List.length_append, h1]; rfl, fun j v hv => ?_⟩
  rw [e]
  rcases Nat.lt_or_ge j ys.length with hlt | hge
  · rw [List.getElem?_append_left hlt] at hv
    rw [List.getElem?_append_left (by (exact Ar.go [_, _, _] [(.V 2, .V 1, 1), (.P (.V 0) (.N 1), .V 2, 1)] 1 (.P (.V 0) (.N 1)) (.V 1) rfl (Nat.le_of_eq h1) hlt))]
    exact h2 j v hv
  · rw [List.getElem?_append_right hge] at hv
    rw [List.getElem?_append_right (by (exact Ar.go [_, _, _] [(.V 0, .V 2, 1), (.V 2, .V 1, 1)] 1 (.V 0) (.V 1) rfl (Nat.le_of_eq h1.symm) hge))]
    rcases Nat.eq_zero_or_pos (j - ys.length) with h0 | h0
    · rw [h0] at hv
      refine ⟨i + 1, t, (Option.some.inj hv).symm, ?_⟩
      rw [← h1, h0]; rfl
    · obtain ⟨k, hk⟩ : ∃ k, j - ys.length = k + 1 := ⟨j - ys.length - 1, by (exact Nat.le_antisymm (Ar.go [_, _] [(.V 0, .P (.V 1) (.N 1), 1)] 1 (.V 0) (.P (.V 1) (.N 1)) rfl (Ar.up _ _)) (Ar.go [_, _] [(.P (.V 0) (.N 1), .V 1, 1)] 1 (.P (.V 0) (.N 1)) (.V 1) rfl (Ar.dn (Ar.go [_] [(.P (.N 0) (.N 1), .V 0, 1)] 1 (.N 1) (.V 0) rfl h0))))⟩
      rw [hk] at hv
      exact nomatch (show none = some v from hv)
theorem wids_no {n i : Nat} {ys : List Value} (h : WidsAre n i ys) (hd : n % (i + 1) ≠ 0) : WidsAre n (i + 1) ys := by
  have e : wids n (i + 1) = wids n i := by unfold wids; rw [List.range_succ, List.map_append, List.filter_append]; simp [hd]
  unfold WidsAre
  rw [e]; exact h
theorem wids_in {n i k : Nat} (h : k ∈ wids n i) : 0 < k ∧ k ≤ i ∧ n % k = 0 := by
  unfold wids at h
  obtain ⟨h1, h2⟩ := List.mem_filter.mp h
  obtain ⟨j, hj, rfl⟩ := List.mem_map.mp h1
  have := List.mem_range.mp hj
  exact ⟨by (exact Ar.go [_] [] 1 (.P (.N 0) (.N 1)) (.P (.V 0) (.N 1)) rfl), by (exact Ar.go [_, _] [(.P (.V 0) (.N 1), .V 1, 1)] 1 (.P (.V 0) (.N 1)) (.V 1) rfl this), by simpa using h2⟩
theorem fmod_nat (n i : Nat) : Int.fmod (n : Int) (1 + (i : Int)) = ((n % (i + 1) : Nat) : Int) := by
  rw [show (1 + (i : Int)) = ((i + 1 : Nat) : Int) by lia, Int.fmod_eq_emod_of_nonneg _ (by (exact Int.natCast_nonneg _))]
  rfl
theorem stretches_spec (x : Str) (tx : Tok) (hx : x.length ≤ 1000) (h0 : 0 < x.length) (ha : ∀ c ∈ x.cps.toList, c < 128) :
  SpecG p loose w mean mg mb 200 40 600 [.str x tx] [] (RBool true) := by
  unfold SpecG; k_fill
  intro dp un gd cn cs a ccd cl outer A₀ base h₀ L m news s Q E B F X N T hk hneed hd hu hret
  refine wpG_call ?_
  (refine' code_defCG ?k1 ?k2 ?k3 ?k4 ?k5 ?kA ?kF ?kK ?k6 ?k7 ?k8 ?k9 ?kB ?kD ?_ ?c2 ?c3 ?c4; (case kA | kF => exact rfl); (case kK => assumption); (case k1 | k2 | k3 | k4 | k5 => k_asm); (case k6 | k7 => k_is); (case k8 => ktr_room); (case k9 => first | exact BindsTo.of_eq rfl | exact binds_K (by k_in) rfl (by k_is) rfl rfl rfl); (case kB => exact rfl); (case kD => decide +kernel); (case c2 | c3 | c4 => exact rfl); k_whole; walk_at "mine e2")
  have hos := octs_size x
  refine wpG_execs_then ?_
  (k_steps; repeat (any_goals (refine Halt.go ?_; (first | ((with_reducible show wpAny _ _ (call (Value.type "type") [Value.bytes _ _]) _ _ _); refine call_type_of (Tx := "bytes") (typeIs_bytes _ _ _) (by decide) ?_) | ((refine enc_call (by assumption) (by assumption) ?_); intro _ _; (try dsimp only))); k_steps)))
  refine wpG_execs_then ?_
  (k_steps; repeat (any_goals (refine Halt.go ?_; (first | ((with_reducible show wpAny _ _ (call (Value.type "type") [Value.bytes _ _]) _ _ _); refine call_type_of (Tx := "bytes") (typeIs_bytes _ _ _) (by decide) ?_) | ((refine enc_call (by assumption) (by assumption) ?_); intro _ _; (try dsimp only))); k_steps)))
  refine Halt.go ?_
  rename IsRange _ _ _ _ _ _ _ _ => R2
  k_dflt (refine LCt.CompSrcT.range (n := x.length) rfl (by k_asm) (by k_asm) R2 ?hsm ?hn ?hz ?_)
  case hsm => exact small_one (by (decide)) (by (decide)) (by lia) (by lia)
  case hn => rw [rangeSize_one]; rw [hos]; lia
  case hz => exact Nat.le_trans hx (by unfold sizeLine; (exact Ar.go [] [] 1 (.N 1000) (.N 16777216) rfl))
  intro g9
  refine comp_invT (fun i ys nw => nw = _ ∧ WidsAre x.length i ys) ⟨rfl, wids_nil⟩ ?turn ?fin
  case turn =>
    intro i v I oI C oC D m₂ ys nw h tk E' hi hJ hv hC hx9 F9 N9 off ne
    obtain ⟨rfl, hy⟩ := hJ
    obtain ⟨tv, rfl⟩ := hv
    k_steps
    · rename Int.fmod _ _ = 0 => hf
      rw [hos, fmod_nat] at hf
      exact LCg.CompEnd.intro (by k_asm) (by k_asm) _ (by kcj_all) off trivial ⟨rfl, wids_yes hy (by lia)⟩
    · rename Int.fmod _ _ ≠ 0 => hf
      rw [hos, fmod_nat] at hf
      exact LCg.CompEnd.intro (by k_asm) (by k_asm) _ (by kcj_all) off trivial ⟨rfl, wids_no hy (by lia)⟩
  case fin =>
    intro ys nw hJ
    obtain ⟨rfl, hy⟩ := hJ
    k_steps
    refine wpG_execs_cons (wpG_For ?_)
    k_steps
    refine iter_led (by k_asm) (by k_asm) (.head _) ?_
    intro I6 h6 o6 l6 hO6 F6 N6
    dsimp only
    refine codeG_list_free (x := Str.ofString "width") (y := Str.ofString "turned") rfl rfl rfl (.head _) (fun p hp => Nat.ne_of_lt (l6 p hp)) hO6 (Nat.zero_le _) (by k_asm) (by k_asm) ?turn3 ?done3
    case turn3 =>
      intro i v u7 o7 h7 tk7 hv7 F7 N7
      obtain ⟨wd, tw, rfl, hwd⟩ := hy.2 i v hv7
      have hin : wd ∈ wids x.length x.length := List.mem_of_getElem? hwd
      have hwi := wids_in hin
      refine wpG_execs_cons (wpG_Assign_Name (wpG_Call (a := 28) rfl ?_))
      k_steps
      refine DefCall.go (by k_asm) (by k_asm) (by k_is) ?_
      have hz9 : (octs x).size ≤ 1000 := by rw [hos]; exact hx
      have hd9 : (octs x).size % wd = 0 := by rw [hos]; exact hwi.2.2
      refine' specG_use (swap_spec (octs x) _ wd _ hz9 hwi.1 (by (exact Ar.go [_, _] [(.V 1, .N 1000, 1), (.V 0, .V 1, 1)] 1 (.V 0) (.N 1000) rfl hx hwi.2.1)) hd9) ?k1 ?k2 ?k3 ?k4 ?k5 ?kK ?kn ?kd ?ku ?_
      ((case k1 | k2 | k3 | k4 | k5 => k_asm); (case kK => first | exact rfl | assumption); (case kd => ktr_room); (case ku => ktr_units))
      case kn => exact fun _ h => nomatch h
      intro t8 h8 tk8 F8 N8
      dsimp only
      (k_steps; repeat (any_goals (refine Halt.go ?_; (with_reducible show wpAny _ _ (call (Value.type "type") [Value.bytes _ _]) _ _ _); refine call_type_of (Tx := "bytes") (typeIs_bytes _ _ _) (by decide) ?_; k_steps)))
      refine wpG_execs_one (wpG_If (wpG_isTrue_or (wpG_or_cons (wpG_any ?_))))
      (k_steps; repeat (any_goals (refine Halt.go ?_; (with_reducible show wpAny _ _ (call (Value.type "type") [Value.bytes _ _]) _ _ _); refine call_type_of (Tx := "bytes") (typeIs_bytes _ _ _) (by decide) ?_; k_steps)))
      refine wpG_or_cons (wpG_any ?_)
      k_steps
      have rs9 := fun t1 t2 => round_spec (p := p) (loose := loose) (w := w) (mean := mean) (mg := mg) (mb := mb) (octs x) t1 wd t2 hz9 hwi.1 (by (exact Ar.go [_, _] [(.V 1, .N 1000, 1), (.V 0, .V 1, 1)] 1 (.V 0) (.N 1000) rfl hx hwi.2.1)) hd9
      rw [round_swap hwi.1 hd9] at rs9
      k_dflt (refine' spec_use (rs9 _ _) ?k1 ?k2 ?k3 ?k4 ?k5 ?kK ?kn ?kd ?ku ?_)
      ((case k1 | k2 | k3 | k4 | k5 => k_asm); (case kK => first | exact rfl | assumption); (case kd => ktr_room); (case ku => ktr_units))
      case kn => exact fun _ h => nomatch h
      intro t5 h5 tk5 F5 N5
      dsimp only
      (k_steps; repeat (any_goals (refine Halt.go ?_; (with_reducible show wpAny _ _ (call (Value.type "type") [Value.bytes _ _]) _ _ _); refine call_type_of (Tx := "bytes") (typeIs_bytes _ _ _) (by decide) ?_; k_steps)))
      · exfalso; rename_i hq; simp at hq
      refine wpG_or_cons ?_
      refine wpG_isTrue_cmp (by rfl) ?_
      refine wpG_Call (a := 28) rfl ?_
      k_steps
      refine DefCall.go (by k_asm) (by k_asm) (by k_is) ?_
      refine' specG_use (swap_spec (swapB (octs x) wd) _ wd _ (by rw [swapB_size]; exact hz9) hwi.1 (by (exact Ar.go [_, _] [(.V 1, .N 1000, 1), (.V 0, .V 1, 1)] 1 (.V 0) (.N 1000) rfl hx hwi.2.1)) (by rw [swapB_size]; exact hd9)) ?k1 ?k2 ?k3 ?k4 ?k5 ?kK ?kn ?kd ?ku ?_
      ((case k1 | k2 | k3 | k4 | k5 => k_asm); (case kK => first | exact rfl | assumption); (case kd => ktr_room); (case ku => ktr_units))
      case kn => exact fun _ h => nomatch h
      intro t4 h4 tk4 F4 N4
      dsimp only
      rw [swap_swap hwi.1 hd9]
      refine wpG_any ?_
      k_steps
      · exfalso; rename_i hq; simp at hq
      refine wpG_or_nil ?_
      k_steps
      refine wpG_any ?_
      k_steps
      refine turnFree (by k_asm) (by k_asm) (fun z h1 h2 => ?_)
      simp only [if_neg h1, if_neg h2]
    case done3 =>
      intro u7 w7 h7 tk7 F7 N7
      dsimp only
      refine wpG_execs_then ?_
      k_steps
      refine wpG_execs_then ?_
      refine For_invVF (by k_asm) rfl rfl ?_
      walk_at "eval Name"
      refine list_acc (x := Str.ofString "width") (y := Str.ofString "due") (fun i t => .bytes (swaps (octs x) (wids x.length x.length) i) t) rfl (.head _) (by k_asm) (by k_asm) (by decide) rfl ?turn4 ?done4
      case turn4 =>
        intro i v t4 h4 tk4 own4 hv4 hown4 F4 N4
        obtain ⟨wd, tw, rfl, hwd⟩ := hy.2 i v hv4
        have hin : wd ∈ wids x.length x.length := List.mem_of_getElem? hwd
        have hwi := wids_in hin
        have hz9 : (swaps (octs x) (wids x.length x.length) i).size ≤ 1000 := by rw [swaps_size, hos]; exact hx
        have hd9 : (swaps (octs x) (wids x.length x.length) i).size % wd = 0 := by rw [swaps_size, hos]; exact hwi.2.2
        k_steps
        have rs9 := fun t1 t2 => round_spec (p := p) (loose := loose) (w := w) (mean := mean) (mg := mg) (mb := mb) (swaps (octs x) (wids x.length x.length) i) t1 wd t2 hz9 hwi.1 (by (exact Ar.go [_, _] [(.V 1, .N 1000, 1), (.V 0, .V 1, 1)] 1 (.V 0) (.N 1000) rfl hx hwi.2.1)) hd9
        rw [round_swap hwi.1 hd9] at rs9
        k_dflt (refine' spec_use (rs9 _ _) ?k1 ?k2 ?k3 ?k4 ?k5 ?kK ?kn ?kd ?ku ?_)
        ((case k1 | k2 | k3 | k4 | k5 => k_asm); (case kK => first | exact rfl | assumption); (case kd => ktr_room); (case ku => ktr_units))
        case kn => exact fun _ h => nomatch h
        intro t5 h5 tk5 F5 N5
        dsimp only
        k_steps
        exact oneG (.head _) hown4 (by k_asm) (by k_asm) ⟨_, by rw [swaps_succ hwd]; exact if_pos rfl⟩ (fun z h1 h2 => by simp only [if_neg h1, if_neg h2])
      case done4 =>
        intro u4 t4 h4 tk4 F4 N4
        have e4 : swaps (octs x) (wids x.length x.length) ys.length = (wids x.length x.length).foldl swapB (octs x) := by rw [swaps, hy.1, List.take_length]
        rw [e4] at F4
        have hz9 : (octs x).size ≤ 1000 := by rw [hos]; exact hx
        have hws : ∀ wd ∈ wids x.length x.length, 0 < wd ∧ wd ≤ 1000 ∧ (octs x).size % wd = 0 := fun wd h => by
          have := wids_in h
          exact ⟨this.1, by (exact Ar.go [_, _] [(.V 1, .N 1000, 1), (.V 0, .V 1, 1)] 1 (.V 0) (.N 1000) rfl hx this.2.1), by rw [hos]; exact this.2.2⟩
        k_steps
        refine wpG_execs_one (wpG_Return (wpG_And3 (wpG_any ?_)))
        k_steps
        refine wpG_cmp (by rfl) ?_
        refine wpG_Call (a := 44) rfl ?_
        k_steps
        refine DefCall.go (by k_asm) (by k_asm) (by k_is) ?_
        refine' specG_use (reduce_spec _ ys (wids x.length x.length) ys.length (octs x) _ hz9 hy.1 hy.2 hws) ?k1 ?k2 ?k3 ?k4 ?k5 ?kK ?kn ?kd ?ku ?_
        ((case k1 | k2 | k3 | k4 | k5 => k_asm); (case kK => first | exact rfl | assumption); (case kd => ktr_room); (case ku => ktr_units))
        case kn => (intro q hq; rw [List.mem_singleton.mp hq]; k_mem)
        intro t8 h8 tk8 F8 N8
        dsimp only
        refine wpG_any ?_
        k_steps
        rotate_left 1
        · exfalso; rename (_ == _) = false => hq; simp at hq
        refine wpG_cmp (by rfl) ?_
        refine wpG_Call (a := 44) rfl ?_
        k_steps
        rename News _ _ _ _ => N2
        have hwl : (wids x.length x.length).length ≤ x.length := by
          unfold wids
          refine Nat.le_trans (List.length_filter_le _ _) ?_
          simp
        refine kmk_add_lit (its := #[_]) (its2 := ys.toArray) (zs := _ :: ys) (by k_asm) N2 (led_list N2 (by k_mem)) (led_list N2 (n := ys.length) (by k_mem)) rfl ?_ (by have := hy.1; simp; unfold sizeLine; (exact Ar.go [_, _, _] [(.V 1, .N 1000, 1), (.V 2, .V 1, 1), (.V 0, .V 2, 1)] 1 (.P (.N 1) (.V 0)) (.N 16777216) rfl hx hwl (Nat.le_of_eq this)))
        intro D9 h9 F9 N9 l9
        dsimp only
        k_steps
        refine DefCall.go (by k_asm) (by k_asm) (by k_is) ?_
        refine' specG_use (reduce2_spec _ ys (wids x.length x.length) 0 (octs x) _ hz9 hy.1 hy.2 hws) ?k1 ?k2 ?k3 ?k4 ?k5 ?kK ?kn ?kd ?ku ?_
        ((case k1 | k2 | k3 | k4 | k5 => k_asm); (case kK => first | exact rfl | assumption); (case kd => ktr_room); (case ku => ktr_units))
        case kn => (intro q hq; rw [List.mem_singleton.mp hq]; k_mem)
        intro t7 h7 tk7 F7 N7
        dsimp only
        refine wpG_any ?_
        k_steps
        exact ret_bool hret (by simp) (by k_asm) (cb_drop (by k_asm) (by kcj_all))
end Mine
end
section
open Mine.h30 Mine.h15 Mine.h3 Mine.h4 Mine.h16 Mine.h31 Mine.h11
open PySem PySem.Spec PySem.Calls PySem.W PyProof.Rows
namespace Mine
variable {p : Program} {loose : List Str} {w : World} {mean : ExcName → Option Value} {mg mb : Str → Option Value}

set_option maxHeartbeats 0
theorem wpG_isTrue_Call {M : Model} {A : Around} {E : Value → Shared → Prop} {s : Shared} {env : Env} {f : Expr} {args : List Expr} {kw : List Keyword} {pos : Pos} {Q : Bool → Shared → Prop} (h : wpG M A (eval (.Call f args kw pos) env) (fun v s₁ => wpAny M A (truthy v) Q E s₁) E s) :
    wpG M A (isTrue (.Call f args kw pos) env (eval (.Call f args kw pos) env)) Q E s := by
  show wpG M A (do
    let v ← eval (.Call f args kw pos) env
    standAt (Expr.Call f args kw pos).pos
    holding [v] (truthy v)) Q E s
  exact wpG_bind (wpG_mono h (fun v s₁ h₁ => wpG_then (wpAny_standAt (wpG_any (wpAny_holding h₁)))) fun _ _ x => x)
theorem pick_33 (vs : List Value) (h : 3 ≤ vs.length) : slicePick vs.toArray (some (-3)) (some (-2)) none = [vs[vs.length - 3]'(by (exact Ar.go [_, _] [(.V 0, .V 1, 2), (.P (.V 0) (.N 3), .V 1, 1)] 3 (.P (.V 0) (.N 1)) (.V 1) rfl (Nat.sub_le _ _) (Ar.dn (Ar.go [_] [(.N 3, .V 0, 1)] 1 (.N 3) (.V 0) rfl h))))].toArray := by
  unfold slicePick
  have e : sliceBounds (some (-3)) (some (-2)) none vs.toArray.size = (((vs.length - 3 : Nat) : Int), ((vs.length - 3 : Nat) : Int) + 1, 1) := by
    unfold sliceBounds
    simp
    lia
  rw [e]
  dsimp only
  have e2 : sliceRange ((vs.length - 3 : Nat) : Int) (((vs.length - 3 : Nat) : Int) + 1) 1 = [vs.length - 3] := by
    unfold sliceRange
    rw [if_pos (by decide), if_pos (by lia), show (((vs.length - 3 : Nat) : Int) + 1 - ((vs.length - 3 : Nat) : Int) + 1 - 1) / 1 = 1 by rw [Int.ediv_one]; lia]
    simp
  rw [e2]
  have : vs[vs.length - 3]? = some (vs[vs.length - 3]'(by (exact Ar.go [_, _] [(.V 0, .V 1, 2), (.P (.V 0) (.N 3), .V 1, 1)] 3 (.P (.V 0) (.N 1)) (.V 1) rfl (Nat.sub_le _ _) (Ar.dn (Ar.go [_] [(.N 3, .V 0, 1)] 1 (.N 3) (.V 0) rfl h))))) := List.getElem?_eq_getElem _
  simp [this]
theorem law_first {dp un : Nat} {gd : Option (List Code)} {a L D2 D3 D4 : Addr} {ccd : Value} {outer : List Env} {A₀ : Around} {base h₀ : Heap} {s : Shared} {zs us ws : List Value} {rs : List (List Str)} {own : List (Addr × Obj)} {ml : List (Str × Value)} {cT : Obj} {Q : Flow → Shared → Prop} {E : Value → Shared → Prop}
    (B : Below A₀ base outer h₀) (F : Fr h₀ L s.heap (fun y => List.lookup y ((("due" : Str), Value.ref D4) :: (("paths" : Str), Value.ref D2) :: ml))) (X : (Mine.hd.heap_1 w.params).In h₀) (N : News h₀ L s.heap (own ++ [(L + 1, cT), (30, tabObj #[])])) (T : Top p loose mean mg mb h₀)
    (hA : Apart L own) (hD2 : (D2, LCg.lst zs) ∈ own) (hS : StrsAre zs (rs.map pathOf)) (hD3 : (D3, LCg.lst us) ∈ own) (hD4 : (D4, LCg.lst ws) ∈ own) (hU : StrsAre us (rs.map fun r => pathOf r.reverse)) (hW : StrsAre ws (rs.map fun r => pathOf r.reverse))
    (hok : ∀ r ∈ rs, RowOk r) (hz : rs.length ≤ 9) (hz3 : 3 ≤ rs.length) (hL : (30 : Nat) < L) (hcT : cT.data = .cell (some (.ref D3))) (hd : dp + 600 < recursionLimit) (hu : un + 3000 < cLine)
    (next : ∀ h' tk', Fr h₀ L h' (fun y => List.lookup y ((("due" : Str), Value.ref D4) :: (("paths" : Str), Value.ref D2) :: ml)) → News h₀ L h' (own ++ [(L + 1, cT), (30, tabObj #[])]) →
      wpG (model PySem.Challenge.rw_ik0191_01.row.prog w) (lawTop dp un gd L a ccd outer) (execs (lawLit.body.drop 4) (envL L a ccd)) Q E { s with heap := h', toks := tk' }) :
    wpG (model PySem.Challenge.rw_ik0191_01.row.prog w) (lawTop dp un gd L a ccd outer) (execs (lawLit.body.drop 3) (envL L a ccd)) Q E s := by
  revert X; k_fill; intro X
  obtain ⟨hh, g, d, t, os⟩ := s
  dsimp only at F N
  dsimp only [lawLit, lawTop, envL, List.drop_succ_cons, List.drop_zero]
  replace N : News h₀ L hh ((L + 1, cT) :: (30, tabObj #[]) :: own) := fun q hq => N q (by
    exact sub_c (List.mem_append_right _ (.head _)) (sub_c (List.mem_append_right _ (.tail _ (.head _))) fun p h => List.mem_append_left _ h) q hq)
  have hzl : zs.length = rs.length := by rw [strs_len hS, List.length_map]
  refine wpG_execs_cons (wpG_If (wpG_isTrue_or (wpG_or_cons (wpG_any ?_))))
  k_steps
  refine Halt.go ?_
  refine ne_strs (IsStrs.led N (.tail _ (.tail _ hD3)) hU) (IsStrs.led N (.tail _ (.tail _ hD4)) hW) (by ktr_units) ?_
  rw [show (!((rs.map fun r => pathOf r.reverse) == (rs.map fun r => pathOf r.reverse))) = false by simp]
  k_steps
  refine wpG_or_cons (wpG_isTrue_cmp (by rfl) (ListComp_open (by with_unfolding_all rfl) (by rfl) (by decide) ?_))
  k_steps
  refine Halt.go ?_
  refine take_led (s := ⟨_, _, _, _, _⟩) (k := 2) F N (vs := zs) (n := zs.length) (.tail _ (.tail _ hD2)) (by (exact Ar.go [_, _] [(.V 1, .N 9, 1), (.V 0, .V 1, 1)] 1 (.V 0) (.N 1000) rfl hz (Nat.le_of_eq hzl))) rfl ?_
  intro D7 h7 l7 F7 N7
  dsimp only
  k_steps
  refine Halt.go ?_
  refine slice_led (s := ⟨_, _, _, _, _⟩) (F := F7) (N := N7) (vs := zs) (n := zs.length) (lo := some (-3)) (hi := some (-2)) (st := none) (.tail _ (.tail _ (.tail _ hD2))) (.int _ _) (.int _ _) .none (by decide) (by (exact Ar.go [_, _] [(.V 1, .N 9, 1), (.V 0, .V 1, 1)] 1 (.V 0) (.N 1000) rfl hz (Nat.le_of_eq hzl))) (pick_33 zs (by (exact Ar.go [_, _] [(.N 3, .V 1, 1), (.V 1, .V 0, 1)] 1 (.N 3) (.V 0) rfl hz3 (Nat.le_of_eq hzl.symm)))) ?_
  intro D8 h8 l8 F8 N8
  dsimp only
  k_steps
  refine Halt.go ?_
  refine kmk_add_lit F8 N8 (led_list N8 (.tail _ (.head _))) (led_list N8 (.head _)) rfl ?_ (by rw [sizeLine_eq]; simp; (exact Ar.go [_] [(.V 0, .N 2, 1)] 1 (.V 0) (.N 16777215) rfl (Nat.min_le_left _ _)))
  intro D9 h9 F9 N9 l9
  dsimp only
  have hin : ∀ (i : Nat) (v : Value), (zs.take 2 ++ [zs[zs.length - 3]'(by (exact Ar.go [_, _] [(.V 0, .V 1, 2), (.P (.V 0) (.N 3), .V 1, 1)] 3 (.P (.V 0) (.N 1)) (.V 1) rfl (Nat.sub_le _ _) (Ar.dn (Ar.go [_, _] [(.N 3, .V 1, 1), (.V 1, .V 0, 1)] 1 (.N 3) (.V 0) rfl hz3 (Nat.le_of_eq hzl.symm)))))])[i]? = some v → ∃ r t, RowOk r ∧ v = .str (pathOf r) t := by
    intro i v hv
    have hm : v ∈ zs := by
      rcases List.mem_append.mp (List.mem_of_getElem? hv) with h | h
      · exact List.mem_of_mem_take h
      · rw [List.mem_singleton.mp h]; exact List.getElem_mem _
    obtain ⟨j, hj, rfl⟩ := List.mem_iff_getElem.mp hm
    have hjr : rs[j]? = some (rs[j]'(by (exact Ar.go [_, _, _] [(.V 2, .V 1, 1), (.P (.V 0) (.N 1), .V 2, 1)] 1 (.P (.V 0) (.N 1)) (.V 1) rfl (Nat.le_of_eq hzl) hj))) := List.getElem?_eq_getElem (by (exact Ar.go [_, _, _] [(.V 2, .V 1, 1), (.P (.V 0) (.N 1), .V 2, 1)] 1 (.P (.V 0) (.N 1)) (.V 1) rfl (Nat.le_of_eq hzl) hj))
    obtain ⟨t, ht⟩ := strs_at hS j (pathOf rs[j]) (by rw [List.getElem?_map, hjr]; rfl)
    rw [List.getElem?_eq_getElem hj] at ht
    exact ⟨_, t, hok _ (List.getElem_mem (by (exact Ar.go [_, _, _] [(.V 2, .V 1, 1), (.P (.V 0) (.N 1), .V 2, 1)] 1 (.P (.V 0) (.N 1)) (.V 1) rfl (Nat.le_of_eq hzl) hj))), Option.some.inj ht⟩
  k_steps
  refine CompAt.goT (vs := zs.take 2 ++ [zs[zs.length - 3]'(by (exact Ar.go [_, _] [(.V 0, .V 1, 2), (.P (.V 0) (.N 3), .V 1, 1)] 3 (.P (.V 0) (.N 1)) (.V 1) rfl (Nat.sub_le _ _) (Ar.dn (Ar.go [_, _] [(.N 3, .V 1, 1), (.V 1, .V 0, 1)] 1 (.N 3) (.V 0) rfl hz3 (Nat.le_of_eq hzl.symm)))))]) rfl F9 N9 (.head _) (by simp; (exact Ar.go [_] [(.V 0, .N 2, 1)] 1 (.V 0) (.N 999) rfl (Nat.min_le_left _ _))) (by decide) (by rfl) (by rfl) ?turn ?fin
  case turn =>
    intro i v I oI C oC D5 m₂ h6 tk6 hv hC hx9 F6 N6 off ne
    obtain ⟨r, tv, hO, rfl⟩ := hin i v hv
    have hT := text_ok hO
    refine wpG_isTrue_not (wpG_isTrue_Call (wpG_Call (a := 200) rfl ?_))
    k_steps
    refine DefCall.go F6 (by k_asm) (by k_is) ?_
    refine specG_use (stretches_spec (pathOf r) _ (Nat.le_trans hT.len (by decide)) hT.pos hT.ascii) (by k_asm) F6 (by k_asm) N6 (by k_asm) rfl (fun _ h => nomatch h) (by (exact Ar.go [_, _] [(.P (.P (.V 0) (.N 600)) (.N 1), .V 1, 1)] 1 (.P (.P (.V 0) (.N 40)) (.N 1)) (.V 1) rfl hd)) (by (exact Ar.go [_, _] [(.P (.P (.V 0) (.N 3000)) (.N 1), .V 1, 1)] 1 (.P (.P (.V 0) (.N 600)) (.N 1)) (.V 1) rfl hu)) ?_
    intro h5 tk5 F5 N5
    dsimp only
    k_steps
    all_goals first | exact F5 | exact N5
  case fin =>
    intro D5 h5 tk5 F5 N5 o5
    dsimp only
    refine wpG_any ?_
    k_steps
    refine Halt.go ?_
    rename News _ _ _ _ => N11
    refine ne_empty (us := []) (led_list N11 (n := 0) (.tail _ (.head _))) (led_list N11 (n := 0) (.head _)) (by ktr_units) ?_
    dsimp only [List.isEmpty_nil, Bool.not_true]
    k_steps
    refine wpG_or_nil ?_
    k_steps
    refine wpG_any (wpAny_execs_nil ?_)
    rename Fr _ _ _ _ => F12
    rename News _ _ _ _ => N12
    refine next _ _ F12 (fun q hq => N12 q ?_)
    simp only [List.mem_cons, List.mem_append, List.not_mem_nil, or_false] at hq ⊢
    rcases hq with h | h | h <;> simp [h]
end Mine
end
section
open Mine.h30 Mine.h15 Mine.h3 Mine.h4 Mine.h16 Mine.h25 Mine.h11
open PySem PySem.Spec PySem.Calls PySem.W PyProof.Rows
namespace Mine
variable {p : Program} {loose : List Str} {w : World} {mean : ExcName → Option Value} {mg mb : Str → Option Value}

set_option maxHeartbeats 0
theorem pick_tail_rev (vs : List Value) (h : 1 ≤ vs.length) : slicePick vs.toArray none (some 0) (some (-1)) = (vs.drop 1).reverse.toArray := by
  cases vs with
  | nil => simp at h
  | cons v r =>
    unfold slicePick
    have e : sliceBounds none (some 0) (some (-1)) (v :: r).toArray.size = ((r.length : Int), 0, -1) := by
      unfold sliceBounds
      simp
      lia
    rw [e]
    dsimp only
    have e2 : sliceRange (r.length : Int) 0 (-1) = (List.range r.length).map fun k => r.length - k := by
      unfold sliceRange
      rw [if_neg (by decide)]
      dsimp only
      have e3 : (if (r.length : Int) > 0 then ((r.length : Int) - 0 - -1 - 1) / - -1 else 0).toNat = r.length := by
        split
        · rw [show ((r.length : Int) - 0 - -1 - 1) / - -1 = r.length by rw [show (- -1 : Int) = 1 by rfl, Int.ediv_one]; lia]; simp
        · simp; lia
      rw [e3]
      refine List.map_congr_left fun k hk => ?_
      have := List.mem_range.mp hk
      lia
    rw [e2]
    have p := pick_rev r
    simp only [List.getElem?_toArray]
    rw [show (v :: r).drop 1 = r from rfl, ← p]
    have gen : ∀ l : List Nat, (∀ k ∈ l, k < r.length) → (l.map fun k => r.length - k).filterMap (fun i => (v :: r)[i]?) = (l.map fun k => r.length - 1 - k).filterMap (fun i => r[i]?) := by
      intro l
      induction l with
      | nil => intro _; rfl
      | cons k l ih =>
        intro hl
        have hk := hl k (.head _)
        have e4 : (v :: r)[r.length - k]? = r[r.length - 1 - k]? := by
          rw [show r.length - k = (r.length - 1 - k) + 1 by (exact Nat.le_antisymm (Ar.go [_, _, _, _, _] [(.V 2, .P (.V 1) (.V 3), 1), (.V 4, .P (.V 2) (.N 1), 1), (.P (.V 0) (.V 3), .V 4, 1)] 1 (.V 0) (.P (.V 1) (.N 1)) rfl (Ar.up _ _) (Ar.up _ _) (Ar.dn (Ar.go [_, _] [(.P (.V 0) (.N 1), .V 1, 1)] 1 (.V 0) (.V 1) rfl hk))) (Ar.go [_, _, _, _, _] [(.V 2, .P (.V 1) (.V 3), 1), (.P (.V 0) (.V 3), .V 4, 1), (.P (.V 4) (.N 1), .V 2, 1)] 1 (.P (.V 0) (.N 1)) (.V 1) rfl (Ar.up _ _) (Ar.dn (Ar.go [_, _, _] [(.P (.V 0) (.N 1), .V 2, 1), (.V 2, .P (.V 1) (.N 1), 1)] 1 (.V 0) (.V 1) rfl hk (Ar.up _ _))) (Ar.dn (Ar.go [_, _] [(.P (.V 1) (.N 1), .V 0, 1)] 1 (.N 1) (.V 0) rfl hk)))), List.getElem?_cons_succ]
        rw [List.map_cons, List.map_cons, List.filterMap_cons, List.filterMap_cons, ih fun j hj => hl j (.tail _ hj), e4]
    rw [gen _ fun k hk => List.mem_range.mp hk]
theorem strs_drop1 {vs : List Value} {ss : List Str} (h : StrsAre vs ss) : StrsAre (vs.drop 1) (ss.drop 1) := by
  cases h with
  | nil => exact .nil
  | cons _ _ h => exact h
theorem rows_at {h₀ h : Heap} {L : Addr} {led own : List (Addr × Obj)} {vs : List Value} {rs : List (List Str)} (N : News h₀ L h led) (hr : RowsIn own vs rs) (hs : ∀ q ∈ own, q ∈ led) : RowsAt h vs rs := ⟨hr.1, fun i r hri => by
  refine hr.row hri fun a us k h1 h2 h3 => ?_
  exact ⟨a, h1, IsStrs.led N (hs _ h2) h3⟩⟩
@[irreducible] noncomputable def Cut (P : Prop) : Prop := P
theorem Cut.mk {P : Prop} (h : P) : Cut P := by unfold Cut; exact h
theorem Cut.out {P : Prop} (h : Cut P) : P := by unfold Cut at h; exact h
theorem wpAny_execs_then {M : Model} {A : Around} {E : Value → Shared → Prop} {s : Shared} {env : Env} {st : Stmt} {rest : List Stmt} {Q : Flow → Shared → Prop} (h : wpAny M A (exec st env) (fun f s' => match f with | .next => Cut (wpAny M A (execs rest env) Q E s') | f => Q f s') E s) :
    wpAny M A (execs (st :: rest) env) Q E s := by
  rw [execs_cons]
  refine wpAny_bind (wpAny_mono h (fun f s' h' => ?_) fun _ _ x => x)
  cases f <;> first | exact h'.out | exact wpAny_pure h'
noncomputable abbrev lawMap (l D D2 D4 : Addr) : Str → Option Value := fun y => List.lookup y [(("due" : Str), Value.ref D4), (("paths" : Str), Value.ref D2), (("rows" : Str), Value.ref D), (("script" : Str), Value.ref l)]
theorem law_second {dp un : Nat} {gd : Option (List Code)} {a l L D D2 D3 D4 : Addr} {ccd : Value} {outer : List Env} {A₀ : Around} {base h₀ : Heap} {s : Shared} {ys us : List Value} {rs : List (List Str)} {own : List (Addr × Obj)} {cT : Obj} {Q : Flow → Shared → Prop} {E : Value → Shared → Prop}
    (B : Below A₀ base outer h₀) (F : Fr h₀ L s.heap (lawMap l D D2 D4)) (X : (Mine.hd.heap_1 w.params).In h₀) (N : News h₀ L s.heap (own ++ [(L + 1, cT), (30, tabObj #[])])) (T : Top p loose mean mg mb h₀)
    (hD : (D, LCg.lst ys) ∈ own) (hr : RowsIn own ys rs) (hD3 : (D3, LCg.lst us) ∈ own) (hU : StrsAre us (rs.map fun r => pathOf r.reverse))
    (hok : ∀ r ∈ rs, RowOk r) (hz : rs.length ≤ 9) (hcT : cT.data = .cell (some (.ref D3))) (hd : dp + 600 < recursionLimit) (hu : un + 3000 < cLine)
    (next : ∀ h' tk', Fr h₀ L h' (lawMap l D D2 D4) → News h₀ L h' (own ++ [(L + 1, cT), (30, tabObj #[])]) →
      wpAny (model PySem.Challenge.rw_ik0191_01.row.prog w) (lawTop dp un gd L a ccd outer) (execs (lawLit.body.drop 5) (envL L a ccd)) Q E { s with heap := h', toks := tk' }) :
    wpAny (model PySem.Challenge.rw_ik0191_01.row.prog w) (lawTop dp un gd L a ccd outer) (execs (lawLit.body.drop 4) (envL L a ccd)) Q E s := by
  revert X; k_fill; intro X
  obtain ⟨hh, g, d, t, os⟩ := s
  dsimp only at F N
  dsimp only [lawMap] at F next
  dsimp only [lawLit, lawTop, envL, List.drop_succ_cons, List.drop_zero]
  replace N : News h₀ L hh ((L + 1, cT) :: (30, tabObj #[]) :: own) := fun q hq => N q (by
    exact sub_c (List.mem_append_right _ (.head _)) (sub_c (List.mem_append_right _ (.tail _ (.head _))) fun p h => List.mem_append_left _ h) q hq)
  have hul : us.length = rs.length := by rw [strs_len hU, List.length_map]
  refine wpAny_execs_then ?_
  k_steps
  refine Halt.go ?_
  refine LCg.ListComp_U F (by with_unfolding_all rfl) (by decide) (by rfl) (by decide) (by rfl) ?_
  k_steps
  refine Halt.go ?_
  refine LCg.CompSrc.ledger (its := us.toArray) rfl F N (.tail _ (.tail _ hD3)) (by rw [List.size_toArray, sizeLine_eq, hul]; exact Nat.le_trans hz (by decide)) ?_
  intro g9
  dsimp only
  refine comp_inv (fun i zs nw => ∃ own2, nw = own2 ++ _ ∧ RowsIn own2 zs ((rs.take i).map fun r => [r.headD (Str.ofString ""), pathOf (r.drop 1).reverse])) ⟨[], rfl, rfl, fun i r h => by simp at h⟩ ?turn ?fin
  case turn =>
    intro i v I oI C oC D6 m₂ zs nw h9 tk9 E9 hi9 hJ hv hC hx9 F9 N9 off ne
    obtain ⟨own2, rfl, hW⟩ := hJ
    have hi2 : i < rs.length := by rw [← hul]; simpa using hi9
    have hri : rs[i]? = some rs[i] := List.getElem?_eq_getElem hi2
    obtain ⟨tv, rfl⟩ : ∃ t, v = .str (pathOf rs[i].reverse) t := by
      obtain ⟨t, ht⟩ := strs_at hU i (pathOf rs[i].reverse) (by rw [List.getElem?_map, hri]; rfl)
      have : _ = some v := hv
      rw [List.getElem?_toArray, ht] at this
      exact ⟨t, (Option.some.inj this).symm⟩
    have hO := hok _ (List.getElem_mem hi2)
    have hlen := (text_ok hO.reverse).len
    k_steps
    refine Halt.go ?_
    refine spec_use (base_spec (pathOf rs[i].reverse) _ (Nat.le_trans hlen (by decide))) (by k_asm) F9 (by k_asm) N9 (by k_asm) rfl (fun _ h => nomatch h) (by (exact Ar.go [_, _] [(.P (.P (.V 0) (.N 600)) (.N 1), .V 1, 1)] 1 (.P (.P (.V 0) (.N 8)) (.N 1)) (.V 1) rfl hd)) (by (exact Ar.go [_, _] [(.P (.P (.V 0) (.N 3000)) (.N 1), .V 1, 1)] 1 (.P (.P (.V 0) (.N 80)) (.N 1)) (.V 1) rfl hu)) ?_
    intro t8 h8 tk8 F8 N8
    rw [base_ok hO]
    dsimp only [List.nil_append] at N8 ⊢
    k_steps
    refine Halt.go ?_
    refine spec_use (dir_spec (pathOf rs[i].reverse) _ (Nat.le_trans hlen (by decide))) (by k_asm) F8 (by k_asm) N8 (by k_asm) rfl (fun _ h => nomatch h) (by (exact Ar.go [_, _] [(.P (.P (.V 0) (.N 600)) (.N 1), .V 1, 1)] 1 (.P (.P (.V 0) (.N 8)) (.N 1)) (.V 1) rfl hd)) (by (exact Ar.go [_, _] [(.P (.P (.V 0) (.N 3000)) (.N 1), .V 1, 1)] 1 (.P (.P (.V 0) (.N 80)) (.N 1)) (.V 1) rfl hu)) ?_
    intro t7 h7 tk7 F7 N7
    rw [dir_ok hO]
    dsimp only [List.nil_append] at N7 ⊢
    k_steps
    rename_i D8 h8 F8 N8 l8
    refine LCg.CompEnd.intro F8 N8 ((D8, W.listOf #[_, _] 0) :: (own2 ++ _)) sub_new ⟨⟨Nat.ne_of_gt l8.1, Nat.ne_of_gt l8.2.1, Nat.ne_of_gt l8.2.2.1⟩, off⟩ (.inr ⟨_, .tail _ (List.mem_append_right _ (.tail _ (.tail _ hD3))), rfl, _, rfl⟩) ⟨_ :: own2, rfl, ?_⟩
    rw [List.take_add_one, hri, Option.toList_some, List.map_append]
    exact hW.snoc (.cons _ _ (.cons _ _ .nil))
  case fin =>
    rintro zs nw ⟨own2, rfl, hW⟩
    rw [List.take_of_length_le (by simp; (exact Ar.go [_, _] [(.V 0, .V 1, 1)] 1 (.V 0) (.V 1) rfl (Nat.le_of_eq hul.symm)))] at hW
    intro D5 h5 tk5 F5 N5 o5
    refine LCg.ListComp_U F5 (by with_unfolding_all rfl) (by decide) (by rfl) (by decide) (by rfl) ?_
    k_steps
    refine Halt.go ?_
    refine LCg.CompSrc.ledger (its := ys.toArray) rfl F5 N5 (.tail _ (List.mem_append_right _ (.tail _ (.tail _ hD)))) (by rw [List.size_toArray, sizeLine_eq, hr.1]; exact Nat.le_trans hz (by decide)) ?_
    intro g8
    dsimp only
    refine comp_inv (fun i ws nw => ∃ own3, nw = own3 ++ _ ∧ RowsIn own3 ws ((rs.take i).map fun r => [r.headD (Str.ofString ""), pathOf (r.drop 1).reverse])) ⟨[], rfl, rfl, fun i r h => by simp at h⟩ ?turn2 ?fin2
    case turn2 =>
      intro i v I oI C oC D6 m₂ ws nw h9 tk9 E9 hi9 hJ hv hC hx9 F9 N9 off ne
      obtain ⟨own3, rfl, hV⟩ := hJ
      have hi2 : i < rs.length := by rw [← hr.1]; simpa using hi9
      have hri : rs[i]? = some rs[i] := List.getElem?_eq_getElem hi2
      refine hr.row hri fun b bs n h1 h2 h3 => ?_
      obtain rfl : v = .ref b := by
        have : _ = some v := hv
        rw [List.getElem?_toArray, h1] at this
        exact (Option.some.inj this).symm
      have hO := hok _ (List.getElem_mem hi2)
      have hbl := strs_len h3
      have hb1 := hO.1
      have hb4 := hO.2.1
      have hmb : (b, W.listOf bs.toArray n) ∈ (I, oI) :: (C, oC) :: (D6, LCg.lst ws) :: (own3 ++ (D5, LCg.lst zs) :: (own2 ++ (L + 1, cT) :: (30, tabObj #[]) :: own)) := .tail _ (.tail _ (.tail _ (List.mem_append_right _ (.tail _ (List.mem_append_right _ (.tail _ (.tail _ h2)))))))
      k_steps
      refine Halt.go ?_
      obtain ⟨t0, ht0⟩ := strs_at h3 0 (rs[i].headD (Str.ofString "")) (by cases hh9 : rs[i] with
        | nil => rw [hh9] at hb1; simp at hb1
        | cons x r => rfl)
      refine item_ledL (vs := bs) (n := n) N9 hmb (by decide) (by decide) ht0 ?_
      k_steps
      refine Halt.go ?_
      refine slice_led (s := ⟨_, _, _, _, _⟩) (F := F9) (N := N9) (vs := bs) (n := n) (lo := none) (hi := some 0) (st := some (-1)) hmb .none (.int _ _) (.int _ _) (by decide) (by (exact Ar.go [_, _] [(.V 0, .V 1, 1), (.V 1, .N 4, 1)] 1 (.V 0) (.N 1000) rfl (Nat.le_of_eq hbl) hb4)) (pick_tail_rev bs (by (exact Ar.go [_, _] [(.V 1, .V 0, 1), (.N 1, .V 1, 1)] 1 (.N 1) (.V 0) rfl (Nat.le_of_eq hbl.symm) hb1))) ?_
      intro D7 h7 l7 F7 N7
      dsimp only
      k_steps
      refine Halt.go ?_
      have hdl : (rs[i].drop 1).reverse.length ≤ 4 := by simp; (exact Ar.go [_] [(.V 0, .N 4, 1)] 1 (.V 0) (.N 5) rfl hb4)
      have hdb : ∀ y ∈ (rs[i].drop 1).reverse, y.length = 2 := fun y hy => (lets_ok (hO.2.2 y (List.mem_of_mem_drop (List.mem_reverse.mp hy)))).1
      refine join_led N7 List.mem_cons_self (strs_rev (strs_drop1 h3)) (joinOk_of (by decide +kernel) (by (exact Ar.go [_] [(.V 0, .N 4, 1)] 1 (.V 0) (.N 1000) rfl hdl)) (fun y hy => by rw [hdb y hy]; decide)) ?_
      intro t8 k8
      dsimp only
      k_steps
      refine PyProof.Rows.add_str (fun t6 k6 => ?_) (by
        have h1 := StrLaws.join_length_le (Str.ofString "/") (rs[i].drop 1).reverse
        have h2 : Txt.join (Str.ofString "/") (rs[i].drop 1).reverse = Str.join (Str.ofString "/") (rs[i].drop 1).reverse := StrLaws.glued_eq_join _ _
        have h3 : (Str.ofString "/").length = 1 := by decide +kernel
        have h4 : ((rs[i].drop 1).reverse.map (·.length)).sum ≤ 8 := by
          have : ∀ l : List Str, (∀ y ∈ l, y.length = 2) → (l.map (·.length)).sum = 2 * l.length := by
            intro l
            induction l with
            | nil => intro _; rfl
            | cons y l ih =>
              intro hl
              rw [List.map_cons, List.sum_cons, ih fun z hz => hl z (.tail _ hz), hl y (.head _), List.length_cons]
              (exact Nat.le_antisymm (Ar.go [_] [] 1 (.P (.N 2) (.L 2 (.V 0))) (.L 2 (.P (.V 0) (.N 1))) rfl) (Ar.go [_] [] 1 (.L 2 (.P (.V 0) (.N 1))) (.P (.N 2) (.L 2 (.V 0))) rfl))
          rw [this _ hdb]; (exact Ar.go [_] [(.V 0, .N 4, 2)] 1 (.L 2 (.V 0)) (.N 8) rfl hdl)
        rw [h2, h3, sizeLine_eq]
        rw [h3] at h1
        (exact Ar.go [_, _, _] [(.V 1, .N 4, 1), (.V 0, .P (.V 2) (.R 1 (.V 1)), 1), (.V 2, .N 8, 1)] 1 (.P (.N 1) (.V 0)) (.N 16777216) rfl hdl h1 h4))
      k_steps
      rename Fr _ _ _ _ => F8
      rename News _ _ _ _ => N8
      rename (D7 < _ ∧ _) => l8
      rename_i D8 h8
      refine LCg.CompEnd.intro F8 N8 ((D8, W.listOf #[Value.str (rs[i].headD (Str.ofString "")) t0, Value.str (pathOf (rs[i].drop 1).reverse) t6] 0) :: (own3 ++ _)) ?sub ⟨⟨Nat.ne_of_gt l8.2.1, Nat.ne_of_gt l8.2.2.1, Nat.ne_of_gt l8.2.2.2.1⟩, off⟩ (.inr ⟨_, .tail _ (List.mem_append_right _ (.tail _ (List.mem_append_right _ (.tail _ (.tail _ hD))))), rfl, _, rfl⟩) ⟨_ :: own3, rfl, ?_⟩
      case sub =>
        intro q hq
        rcases List.mem_cons.mp hq with rfl | hq
        · exact .tail _ (.tail _ (.head _))
        rcases List.mem_cons.mp hq with rfl | hq
        · exact .tail _ (.tail _ (.tail _ (.head _)))
        rcases List.mem_cons.mp hq with rfl | hq
        · exact .tail _ (.tail _ (.tail _ (.tail _ (.head _))))
        rcases List.mem_cons.mp hq with rfl | hq
        · exact .head _
        · exact .tail _ (.tail _ (.tail _ (.tail _ (.tail _ hq))))
      rw [List.take_add_one, hri, Option.toList_some, List.map_append]
      exact hV.snoc (.cons _ _ (.cons _ _ .nil))
    case fin2 =>
      rintro ws nw ⟨own3, rfl, hV⟩
      rw [List.take_of_length_le (by have := hr.1; simp; (exact Ar.go [_, _] [(.V 0, .V 1, 1)] 1 (.V 0) (.V 1) rfl (Nat.le_of_eq this.symm)))] at hV
      intro D6 h6 tk6 F6 N6 o6
      k_steps
      refine Halt.go ?_
      refine ne_rows (led_list N6 (its := zs.toArray) (n := zs.length) (.tail _ (List.mem_append_right _ (.head _)))) (led_list N6 (its := ws.toArray) (n := ws.length) (.head _)) (rows_at N6 hW fun q h => .tail _ (List.mem_append_right _ (.tail _ (List.mem_append_left _ h)))) (rows_at N6 hV fun q h => .tail _ (List.mem_append_left _ h)) (by ktr_units) ?_
      rw [show ∀ x : List (List Str), (!(x == x)) = false by intro x; simp]
      k_steps
      refine Cut.mk (next _ _ F6 fun q hq => N6 q (.tail _ (List.mem_append_right _ (.tail _ (List.mem_append_right _ ?_)))))
      exact (List.mem_append.mp hq).elim (fun h => .tail _ (.tail _ h)) fun h => (sub_c (.head _) (sub_c (.tail _ (.head _)) sub_e)) q h
end Mine
end
section
open PySem PySem.W PyProof.Rows
namespace Mine
theorem countP_front {α : Type} (f : α → Bool) : ∀ (l : List α) (a : Nat), a ≤ l.length → (∀ b (h : b < l.length), f l[b] = decide (b < a)) → l.countP f = a := by
  intro l a ha h
  have h1 : l.countP f = (l.take a).countP f + (l.drop a).countP f := by rw [← List.countP_append, List.take_append_drop]
  have h2 : (l.take a).countP f = (l.take a).length := by
    refine List.countP_eq_length.mpr fun x hx => ?_
    obtain ⟨i, hi, rfl⟩ := List.mem_iff_getElem.mp hx
    rw [List.length_take] at hi
    rw [List.getElem_take, h i (by (exact Ar.go [_, _, _] [(.P (.V 0) (.N 1), .V 2, 1), (.V 2, .V 1, 1)] 1 (.P (.V 0) (.N 1)) (.V 1) rfl hi (Nat.min_le_right _ _)))]
    exact decide_eq_true (by (exact Ar.go [_, _, _] [(.P (.V 0) (.N 1), .V 2, 1), (.V 2, .V 1, 1)] 1 (.P (.V 0) (.N 1)) (.V 1) rfl hi (Nat.min_le_left _ _)))
  have h3 : (l.drop a).countP f = 0 := by
    refine List.countP_eq_zero.mpr fun x hx => ?_
    obtain ⟨i, hi, rfl⟩ := List.mem_iff_getElem.mp hx
    rw [List.length_drop] at hi
    rw [List.getElem_drop, h (a + i) (by (exact Ar.go [_, _, _, _] [(.P (.V 1) (.N 1), .V 3, 1), (.P (.V 3) (.V 0), .V 2, 1)] 1 (.P (.P (.V 0) (.V 1)) (.N 1)) (.V 2) rfl hi (Ar.dn (Ar.go [_, _] [(.V 0, .V 1, 1)] 1 (.V 0) (.V 1) rfl ha))))]
    simp
  rw [h1, h2, h3, List.length_take]
  (exact Nat.le_antisymm (Ar.go [_, _] [(.V 0, .V 1, 1)] 1 (.P (.V 0) (.N 0)) (.V 1) rfl (Nat.min_le_left _ _)) (Ar.go [_, _] [(.V 0, .V 1, 1)] 1 (.V 0) (.P (.V 1) (.N 0)) rfl (Nat.le_of_eq (Nat.min_eq_left (Ar.go [_, _] [(.V 0, .V 1, 1)] 1 (.V 0) (.V 1) rfl ha)).symm)))
theorem countP_or {α : Type} (f g : α → Bool) : ∀ (l : List α), (∀ x ∈ l, f x = true → g x = true → False) → l.countP (fun x => f x || g x) = l.countP f + l.countP g
  | [], _ => rfl
  | a :: l, h => by
    have ih := countP_or f g l fun x hx => h x (.tail _ hx)
    have h1 := h a (.head _)
    rw [List.countP_cons, List.countP_cons, List.countP_cons, ih]
    cases hf : f a <;> cases hg : g a <;> simp [hf, hg] at h1 ⊢ <;> (first | (exact Nat.le_antisymm (Ar.go [_, _] [] 1 (.P (.P (.V 0) (.V 1)) (.N 1)) (.P (.V 0) (.P (.V 1) (.N 1))) rfl) (Ar.go [_, _] [] 1 (.P (.V 0) (.P (.V 1) (.N 1))) (.P (.P (.V 0) (.V 1)) (.N 1)) rfl)) | (exact Nat.le_antisymm (Ar.go [_, _] [] 1 (.P (.P (.V 0) (.V 1)) (.N 1)) (.P (.P (.V 0) (.N 1)) (.V 1)) rfl) (Ar.go [_, _] [] 1 (.P (.P (.V 0) (.N 1)) (.V 1)) (.P (.P (.V 0) (.V 1)) (.N 1)) rfl)))
theorem map_getD {α : Type} (d : α) (l : List α) : l = (List.range l.length).map fun i => l.getD i d := by
  refine List.ext_getElem? fun i => ?_
  rw [List.getElem?_map]
  by_cases h : i < l.length
  · rw [List.getElem?_range h, Option.map_some, List.getD_eq_getElem?_getD, List.getElem?_eq_getElem h]; rfl
  · rw [List.getElem?_eq_none (by (exact Ar.go [_, _] [(.V 0, .V 1, 1)] 1 (.V 0) (.V 1) rfl (Nat.le_of_not_lt h))), List.getElem?_eq_none (by simpa using h)]; rfl
end Mine
end
section
open PySem PySem.W PyProof.Rows
namespace Mine
theorem sl_tri (x y : Str) : toL x < toL y ∨ x = y ∨ toL y < toL x := by
  by_cases h : toL x < toL y
  · exact .inl h
  · by_cases h2 : toL y < toL x
    · exact .inr (.inr h2)
    · exact .inr (.inl (toL_inj (List.le_antisymm (List.not_lt.mp h2) (List.not_lt.mp h))))
theorem ltL_cons (x y : Str) (xs ys : List Str) : ltL (x :: xs) (y :: ys) = true ↔ toL x < toL y ∨ (x = y ∧ ltL xs ys = true) := by
  show (if x == y then ltL xs ys else decide (toL x < toL y)) = true ↔ _
  by_cases h : x = y
  · subst h
    simp [List.lt_irrefl]
  · have hb : (x == y) = false := beq_eq_false_iff_ne.mpr h
    rw [hb]
    simp [h]
theorem ltL_nil (r : List Str) : ltL r [] = false := by cases r <;> rfl
theorem ltL_tri : ∀ a b : List Str, ltL a b = true ∨ a = b ∨ ltL b a = true
  | [], [] => .inr (.inl rfl)
  | [], _ :: _ => .inl rfl
  | _ :: _, [] => .inr (.inr rfl)
  | x :: xs, y :: ys => by
    rw [ltL_cons, ltL_cons]
    rcases sl_tri x y with h | h | h
    · exact .inl (.inl h)
    · subst h
      rcases ltL_tri xs ys with h | h | h
      · exact .inl (.inr ⟨rfl, h⟩)
      · exact .inr (.inl (by rw [h]))
      · exact .inr (.inr (.inr ⟨rfl, h⟩))
    · exact .inr (.inr (.inl h))
theorem ltL_trans : ∀ {a b c : List Str}, ltL a b = true → ltL b c = true → ltL a c = true
  | _, [], _, h, _ => by rw [ltL_nil] at h; cases h
  | _, _ :: _, [], _, h => by cases h
  | [], _ :: _, _ :: _, _, _ => rfl
  | x :: xs, y :: ys, z :: zs, h1, h2 => by
    rw [ltL_cons] at h1 h2 ⊢
    rcases h1 with h1 | ⟨rfl, h1⟩
    · rcases h2 with h2 | ⟨rfl, h2⟩
      · exact .inl (List.lt_trans h1 h2)
      · exact .inl h1
    · rcases h2 with h2 | ⟨rfl, h2⟩
      · exact .inl h2
      · exact .inr ⟨rfl, ltL_trans h1 h2⟩
theorem ltL_asymm {a b : List Str} (h : ltL a b = true) : ltL b a = false := by
  cases h2 : ltL b a with
  | false => rfl
  | true => exact absurd (ltL_trans h h2) (by rw [ltL_irrefl]; exact Bool.false_ne_true)
noncomputable def flat (l : List Str) : List Nat := l.flatMap fun n => 47 :: toL n
theorem flat_join : ∀ (l : List Str), l ≠ [] → 47 :: toL (Txt.join sl l) = flat l
  | [], h => absurd rfl h
  | [a], _ => by simp [flat, tjoin, Str.join]
  | a :: b :: r, _ => by
    have ih := flat_join (b :: r) (List.cons_ne_nil _ _)
    rw [tjoin] at ih ⊢
    rw [toL_join, ih]
    simp [flat]
theorem flat_lt : ∀ (a b : List Str), (∀ x ∈ a, x.length = 2) → (∀ x ∈ b, x.length = 2) → (flat a < flat b ↔ ltL a b = true)
  | [], [], _, _ => by simp [flat, ltL, List.lt_irrefl]
  | [], y :: ys, _, _ => by simp [flat, ltL]
  | x :: xs, [], _, _ => by simp [flat, ltL]
  | x :: xs, y :: ys, ha, hb => by
    have ih := flat_lt xs ys (fun z hz => ha z (.tail _ hz)) (fun z hz => hb z (.tail _ hz))
    have hx : (toL x).length = 2 := by rw [toL_len]; exact ha x (.head _)
    have hy : (toL y).length = 2 := by rw [toL_len]; exact hb y (.head _)
    rw [ltL_cons, ← ih]
    have e : ∀ (z : Str) (zs : List Str), flat (z :: zs) = 47 :: (toL z ++ flat zs) := fun z zs => by simp [flat]
    rw [e, e, List.cons_lt_cons_iff]
    have inj : x = y ↔ toL x = toL y := ⟨congrArg toL, toL_inj⟩
    rw [inj]
    match h1 : toL x, h2 : toL y with
    | [a, b], [c, d] =>
      by_cases hP : flat xs < flat ys
      · simp [List.cons_lt_cons_iff, hP]
        lia
      · simp [List.cons_lt_cons_iff, hP]
    | [], _ => rw [h1] at hx; simp at hx
    | [_], _ => rw [h1] at hx; simp at hx
    | _ :: _ :: _ :: _, _ => rw [h1] at hx; simp at hx
    | _, [] => rw [h2] at hy; simp at hy
    | _, [_] => rw [h2] at hy; simp at hy
    | _, _ :: _ :: _ :: _ => rw [h2] at hy; simp at hy
end Mine
end
section
open PySem PySem.W PyProof.Rows
namespace Mine
theorem gtL_is : ∀ a b : List Str, gtL a b = ltL b a
  | [], b => by rw [ltL_nil]; cases b <;> rfl
  | _ :: _, [] => rfl
  | x :: xs, y :: ys => by
    have ih := gtL_is xs ys
    by_cases h : x = y
    · subst h
      show (if x == x then gtL xs ys else _) = (if x == x then ltL ys xs else _)
      rw [if_pos (by simp), if_pos (by simp), ih]
    · show (if x == y then gtL xs ys else decide (toL y < toL x)) = (if y == x then ltL ys xs else decide (toL y < toL x))
      rw [if_neg (by simpa using h), if_neg (by simpa using Ne.symm h)]
theorem ltL_le {a b c : List Str} (h1 : ltL b a = false) (h2 : ltL c b = false) : ltL c a = false := by
  cases h : ltL c a with
  | false => rfl
  | true =>
    rcases ltL_tri b a with q | rfl | q
    · rw [q] at h1; cases h1
    · rw [h] at h2; cases h2
    · rw [ltL_trans h q] at h2; cases h2
theorem min_le (S : List (List Str)) : ∀ j k, k ≤ j → ltL (rowAtD S k) (rowAtD S (argBest (ltAt S) j)) = false
  | 0, k, hk => by
    obtain rfl : k = 0 := by (exact Nat.le_antisymm (Ar.go [_] [(.V 0, .N 0, 1)] 1 (.V 0) (.N 0) rfl hk) (Ar.go [_] [] 1 (.N 0) (.V 0) rfl))
    exact ltL_irrefl _
  | j + 1, k, hk => by
    have ih := min_le S j
    unfold argBest
    cases hb : ltAt S (j + 1) (argBest (ltAt S) j) with
    | true =>
      rw [if_pos rfl]
      rcases Nat.lt_or_ge k (j + 1) with h | h
      · exact ltL_le (ltL_asymm (show ltL (rowAtD S (j + 1)) _ = true from hb)) (ih k (by (exact Ar.go [_, _] [(.P (.V 0) (.N 1), .P (.V 1) (.N 1), 1)] 1 (.V 0) (.V 1) rfl h)))
      · obtain rfl : k = j + 1 := by (exact Nat.le_antisymm (Ar.go [_, _] [(.V 0, .P (.V 1) (.N 1), 1)] 1 (.V 0) (.P (.V 1) (.N 1)) rfl hk) (Ar.go [_, _] [(.P (.V 0) (.N 1), .V 1, 1)] 1 (.P (.V 0) (.N 1)) (.V 1) rfl h))
        exact ltL_irrefl _
    | false =>
      rw [if_neg Bool.false_ne_true]
      rcases Nat.lt_or_ge k (j + 1) with h | h
      · exact ih k (by (exact Ar.go [_, _] [(.P (.V 0) (.N 1), .P (.V 1) (.N 1), 1)] 1 (.V 0) (.V 1) rfl h))
      · obtain rfl : k = j + 1 := by (exact Nat.le_antisymm (Ar.go [_, _] [(.V 0, .P (.V 1) (.N 1), 1)] 1 (.V 0) (.P (.V 1) (.N 1)) rfl hk) (Ar.go [_, _] [(.P (.V 0) (.N 1), .V 1, 1)] 1 (.P (.V 0) (.N 1)) (.V 1) rfl h))
        exact hb
theorem max_ge (S : List (List Str)) : ∀ j k, k ≤ j → ltL (rowAtD S (argBest (gtAt S) j)) (rowAtD S k) = false
  | 0, k, hk => by
    obtain rfl : k = 0 := by (exact Nat.le_antisymm (Ar.go [_] [(.V 0, .N 0, 1)] 1 (.V 0) (.N 0) rfl hk) (Ar.go [_] [] 1 (.N 0) (.V 0) rfl))
    exact ltL_irrefl _
  | j + 1, k, hk => by
    have ih := max_ge S j
    unfold argBest
    cases hb : gtAt S (j + 1) (argBest (gtAt S) j) with
    | true =>
      rw [if_pos rfl]
      rcases Nat.lt_or_ge k (j + 1) with h | h
      · have hb2 : ltL (rowAtD S (argBest (gtAt S) j)) (rowAtD S (j + 1)) = true := by rw [← gtL_is]; exact hb
        exact ltL_le (ih k (by (exact Ar.go [_, _] [(.P (.V 0) (.N 1), .P (.V 1) (.N 1), 1)] 1 (.V 0) (.V 1) rfl h))) (ltL_asymm hb2)
      · obtain rfl : k = j + 1 := by (exact Nat.le_antisymm (Ar.go [_, _] [(.V 0, .P (.V 1) (.N 1), 1)] 1 (.V 0) (.P (.V 1) (.N 1)) rfl hk) (Ar.go [_, _] [(.P (.V 0) (.N 1), .V 1, 1)] 1 (.P (.V 0) (.N 1)) (.V 1) rfl h))
        exact ltL_irrefl _
    | false =>
      rw [if_neg Bool.false_ne_true]
      rcases Nat.lt_or_ge k (j + 1) with h | h
      · exact ih k (by (exact Ar.go [_, _] [(.P (.V 0) (.N 1), .P (.V 1) (.N 1), 1)] 1 (.V 0) (.V 1) rfl h))
      · obtain rfl : k = j + 1 := by (exact Nat.le_antisymm (Ar.go [_, _] [(.V 0, .P (.V 1) (.N 1), 1)] 1 (.V 0) (.P (.V 1) (.N 1)) rfl hk) (Ar.go [_, _] [(.P (.V 0) (.N 1), .V 1, 1)] 1 (.P (.V 0) (.N 1)) (.V 1) rfl h))
        rw [← gtL_is]; exact hb
theorem best_le {bt : Nat → Nat → Bool} : ∀ j, argBest bt j ≤ j
  | 0 => Nat.le_refl _
  | j + 1 => by
    have ih := best_le (bt := bt) j
    unfold argBest
    split <;> (first | (exact Ar.go [_] [] 1 (.P (.V 0) (.N 1)) (.P (.V 0) (.N 1)) rfl) | (exact Ar.go [_, _] [(.V 0, .V 1, 1)] 1 (.V 0) (.P (.V 1) (.N 1)) rfl ih))
theorem common_more : ∀ (a b : List Str) (k : Nat), a.take k = b.take k → k ≤ a.length → k ≤ b.length → k ≤ (commonOf a b).length
  | _, _, 0, _, _, _ => Nat.zero_le _
  | [], _, k + 1, _, h, _ => by simp at h
  | _ :: _, [], k + 1, _, _, h => by simp at h
  | x :: xs, y :: ys, k + 1, h, h1, h2 => by
    simp only [List.take_succ_cons] at h
    obtain ⟨q, h3⟩ := List.cons.inj h
    subst q
    have ih := common_more xs ys k h3 (by simpa using h1) (by simpa using h2)
    have e : commonOf (x :: xs) (x :: ys) = x :: commonOf xs ys := by rw [common_eq, if_pos (by simp)]
    rw [e, List.length_cons]
    (exact Ar.go [_, _] [(.V 0, .V 1, 1)] 1 (.P (.V 0) (.N 1)) (.P (.V 1) (.N 1)) rfl ih)
theorem between_pre : ∀ (a b s : List Str), ltL s a = false → ltL b s = false → ∃ u, s = commonOf a b ++ u
  | [], b, s, _, _ => ⟨s, by rw [common_nil]; rfl⟩
  | x :: xs, [], s, _, _ => ⟨s, rfl⟩
  | x :: xs, y :: ys, [], h, _ => by cases h
  | x :: xs, y :: ys, z :: zs, h1, h2 => by
    by_cases h : x = y
    · subst h
      have e : commonOf (x :: xs) (x :: ys) = x :: commonOf xs ys := by rw [common_eq, if_pos (by simp)]
      have n1 : ¬ (toL z < toL x ∨ z = x ∧ ltL zs xs = true) := fun q => by rw [(ltL_cons z x zs xs).mpr q] at h1; cases h1
      have n2 : ¬ (toL x < toL z ∨ x = z ∧ ltL ys zs = true) := fun q => by rw [(ltL_cons x z ys zs).mpr q] at h2; cases h2
      rcases sl_tri x z with q | rfl | q
      · exact absurd (.inl q) n2
      · obtain ⟨u, hu⟩ := between_pre xs ys zs (by
          cases q : ltL zs xs with
          | false => rfl
          | true => exact absurd (.inr ⟨rfl, q⟩) n1) (by
          cases q : ltL ys zs with
          | false => rfl
          | true => exact absurd (.inr ⟨rfl, q⟩) n2)
        exact ⟨u, by rw [e, List.cons_append, ← hu]⟩
      · exact absurd (.inl q) n1
    · have e : commonOf (x :: xs) (y :: ys) = [] := by rw [common_eq, if_neg (by simpa using h)]
      exact ⟨z :: zs, by rw [e]; rfl⟩
theorem lt_of_pre : ∀ (a : List Str) (i : Nat), i < a.length → ltL (a.take i) a = true
  | [], i, h => by simp at h
  | x :: xs, 0, _ => rfl
  | x :: xs, i + 1, h => by
    rw [List.take_succ_cons, ltL_cons]
    exact .inr ⟨rfl, lt_of_pre xs i (by simpa using h)⟩
theorem goShared_is (rs : List (List Str)) (r0 : List Str) (c : Nat) : ∀ f k, (∀ j, k ≤ j → j < c → agree rs r0 j = true) → (c < k + f → agree rs r0 c = false) → k ≤ c → c ≤ k + f → goShared rs r0 f k = c
  | 0, k, _, _, h1, h2 => by unfold goShared; (exact Nat.le_antisymm (Ar.go [_, _] [(.V 0, .V 1, 1)] 1 (.V 0) (.V 1) rfl h1) (Ar.go [_, _] [(.V 0, .P (.V 1) (.N 0), 1)] 1 (.V 0) (.V 1) rfl h2))
  | f + 1, k, hy, hn, h1, h2 => by
    unfold goShared
    by_cases h : k = c
    · subst h
      rw [hn (by (exact Ar.go [_, _] [] 1 (.P (.V 0) (.N 1)) (.P (.V 0) (.P (.V 1) (.N 1))) rfl)), if_neg Bool.false_ne_true]
    · rw [hy k (Nat.le_refl _) (by (exact Ar.go [_, _] [(.P (.V 0) (.N 1), .V 1, 1)] 1 (.P (.V 0) (.N 1)) (.V 1) rfl (Nat.lt_of_le_of_ne (Ar.go [_, _] [(.V 0, .V 1, 1)] 1 (.V 0) (.V 1) rfl h1) h))), if_pos rfl]
      exact goShared_is rs r0 c f (k + 1) (fun j a b => hy j (by (exact Ar.go [_, _] [(.P (.V 0) (.N 1), .V 1, 1)] 1 (.V 0) (.V 1) rfl a)) b) (fun a => hn (by (exact Ar.go [_, _, _] [(.P (.V 0) (.N 1), .P (.P (.V 1) (.N 1)) (.V 2), 1)] 1 (.P (.V 0) (.N 1)) (.P (.V 1) (.P (.V 2) (.N 1))) rfl a))) (by (exact Ar.go [_, _] [(.P (.V 0) (.N 1), .V 1, 1)] 1 (.P (.V 0) (.N 1)) (.V 1) rfl (Nat.lt_of_le_of_ne (Ar.go [_, _] [(.V 0, .V 1, 1)] 1 (.V 0) (.V 1) rfl h1) h))) (by (exact Ar.go [_, _, _] [(.V 0, .P (.V 1) (.P (.V 2) (.N 1)), 1)] 1 (.V 0) (.P (.P (.V 1) (.N 1)) (.V 2)) rfl h2))
end Mine
end
section
open PySem PySem.W PyProof.Rows
namespace Mine
noncomputable def rkOf (rs : List (List Str)) (i : Nat) : Nat := (rs.filter fun q => ltR q (rs.getD i [])).length
noncomputable def usOf (rs : List (List Str)) (i : Nat) : Str := pathOf (rs.getD i []).reverse
theorem cmp_lt (x y : Str) : cmpInt x y < 0 ↔ toL x < toL y := by
  unfold cmpInt
  show (5 * if decide (toL y < toL x) = true then (1 : Int) else 0) - 3 * (if decide (toL x < toL y) = true then (1 : Int) else 0) < 0 ↔ _
  by_cases h1 : toL x < toL y
  · have h2 : ¬ toL y < toL x := fun q => List.lt_irrefl _ (List.lt_trans h1 q)
    simp [h1, h2]
  · by_cases h2 : toL y < toL x <;> simp [h1, h2]
theorem toL_path {r : List Str} (h : RowOk r) : toL (pathOf r) = flat r := by
  rw [pathOf_len, flat_join r fun q => by rw [q] at h; exact absurd h.1 (by decide)]
theorem row_two {r : List Str} (h : RowOk r) : ∀ x ∈ r, x.length = 2 := fun x hx => (lets_ok (h.2.2 x hx)).1
theorem getD_mem {rs : List (List Str)} {i : Nat} (hi : i < rs.length) : rs.getD i [] ∈ rs := by
  rw [List.getD_eq_getElem?_getD, List.getElem?_eq_getElem hi]
  exact List.getElem_mem hi
theorem ltR_le {a b c : List Str} (h1 : ltR b a = false) (h2 : ltR c b = false) : ltR c a = false := ltL_le h1 h2
theorem countP_lt {α : Type} {f g : α → Bool} {l : List α} (h : ∀ x ∈ l, f x = true → g x = true) {y : α} (hy : y ∈ l) (h1 : f y = false) (h2 : g y = true) : l.countP f < l.countP g := by
  have e : l.countP g = l.countP f + l.countP fun x => g x && !f x := by
    rw [← countP_or f (fun x => g x && !f x) l fun x _ a b => by rw [a] at b; simp at b]
    refine List.countP_congr fun x hx => ?_
    have := h x hx
    cases hf : f x <;> cases hg : g x <;> simp [hf, hg] at this ⊢
  have : 0 < l.countP fun x => g x && !f x := List.countP_pos_iff.mpr ⟨y, hy, by rw [h1, h2]; rfl⟩
  (exact Ar.go [_, _, _] [(.P (.V 0) (.V 2), .V 1, 1), (.P (.N 0) (.N 1), .V 2, 1)] 1 (.P (.V 0) (.N 1)) (.V 1) rfl (Nat.le_of_eq e.symm) this)
theorem rk_lt {rs : List (List Str)} {i j : Nat} (hi : i < rs.length) : rkOf rs i < rkOf rs j ↔ ltR (rs.getD i []) (rs.getD j []) = true := by
  unfold rkOf
  rw [← List.countP_eq_length_filter, ← List.countP_eq_length_filter]
  refine ⟨fun h => ?_, fun h => ?_⟩
  · cases q : ltR (rs.getD i []) (rs.getD j []) with
    | true => rfl
    | false =>
      refine absurd h (Nat.not_lt.mpr (List.countP_mono_left fun x _ hx => ?_))
      cases q2 : ltR x (rs.getD i []) with
      | true => rfl
      | false => rw [ltR_le q q2] at hx; cases hx
  · exact countP_lt (fun x _ hx => ltL_trans hx h) (getD_mem hi) (ltL_irrefl _) h
theorem rk_eq {rs : List (List Str)} {i j : Nat} (hi : i < rs.length) (hj : j < rs.length) : rkOf rs i = rkOf rs j ↔ rs.getD i [] = rs.getD j [] := by
  refine ⟨fun h => ?_, fun h => by unfold rkOf; rw [h]⟩
  rcases ltL_tri (rs.getD i []).reverse (rs.getD j []).reverse with q | q | q
  · have := (rk_lt hi (j := j)).mpr q; lia
  · exact List.reverse_inj.mp q
  · have := (rk_lt hj (j := i)).mpr q; lia
theorem rank_ok {rs : List (List Str)} (hok : ∀ r ∈ rs, RowOk r) {i j : Nat} (hi : i < rs.length) (hj : j < rs.length) : decide (cmpInt (usOf rs i) (usOf rs j) < 0) = Srt.Le (rkOf rs) i j := by
  have ri := (hok _ (getD_mem hi)).reverse
  have rj := (hok _ (getD_mem hj)).reverse
  unfold Srt.Le
  rw [decide_eq_decide, cmp_lt, rk_lt hi]
  unfold usOf
  rw [toL_path ri, toL_path rj]
  exact flat_lt _ _ (row_two ri) (row_two rj)
noncomputable def ahead (rs : List (List Str)) (k i : Nat) : Bool := ltR (rs.getD k []) (rs.getD i []) || (rs.getD k [] == rs.getD i [] && decide (k < i))
theorem ahead_is {rs : List (List Str)} {k i : Nat} (hk : k < rs.length) (hi : i < rs.length) : ahead rs k i = true ↔ Srt.Pr (rkOf rs) k i := by
  unfold ahead Srt.Pr
  rw [Bool.or_eq_true, Bool.and_eq_true, rk_lt hk, rk_eq hk hi]
  simp
theorem countP_range_lt (f : Nat → Bool) (i : Nat) : ∀ n, i ≤ n → (List.range n).countP (fun k => f k && decide (k < i)) = (List.range i).countP f
  | 0, h => by
    obtain rfl : i = 0 := by (exact Nat.le_antisymm (Ar.go [_] [(.V 0, .N 0, 1)] 1 (.V 0) (.N 0) rfl h) (Ar.go [_] [] 1 (.N 0) (.V 0) rfl))
    rfl
  | n + 1, h => by
    rcases Nat.lt_or_ge n i with q | q
    · obtain rfl : i = n + 1 := by (exact Nat.le_antisymm (Ar.go [_, _] [(.V 0, .P (.V 1) (.N 1), 1)] 1 (.V 0) (.P (.V 1) (.N 1)) rfl h) (Ar.go [_, _] [(.P (.V 0) (.N 1), .V 1, 1)] 1 (.P (.V 0) (.N 1)) (.V 1) rfl q))
      refine List.countP_congr fun k hk => ?_
      have := List.mem_range.mp hk
      simp [this]
    · have ih := countP_range_lt f i n q
      rw [List.range_succ, List.countP_append, ih]
      simp
      lia
theorem place_is {rs : List (List Str)} {i : Nat} (hi : i < rs.length) : placeOf rs i (rs.getD i []) = (List.range rs.length).countP fun k => ahead rs k i := by
  unfold placeOf ahead
  rw [countP_or (fun k => ltR (rs.getD k []) (rs.getD i [])) (fun k => rs.getD k [] == rs.getD i [] && decide (k < i)) _ fun k _ a b => by
    have e := eq_of_beq (Bool.and_eq_true_iff.mp b).1
    have a2 : ltR (rs.getD k []) (rs.getD i []) = true := a
    rw [e] at a2
    rw [show ltR (rs.getD i []) (rs.getD i []) = false from ltL_irrefl _] at a2
    cases a2]
  rw [countP_range_lt (fun k => rs.getD k [] == rs.getD i []) i _ (Nat.le_of_lt hi)]
  have m := map_getD ([] : List Str) rs
  congr 1
  · rw [← List.countP_eq_length_filter]
    generalize rs.getD i [] = r
    conv => lhs; rw [m]
    rw [List.countP_map]
    rfl
  · have m2 : rs.take i = (List.range i).map fun k => rs.getD k [] := by
      conv => lhs; rw [m]
      rw [← List.map_take, List.take_range, Nat.min_eq_left (Nat.le_of_lt hi)]
    rw [m2, List.count, List.countP_map]
    rfl
theorem ord_get {rs : List (List Str)} (inj : ∀ i j, i < rs.length → j < rs.length → placeOf rs i (rs.getD i []) = placeOf rs j (rs.getD j []) → i = j) : ∀ m, m ≤ rs.length → ∀ i, i < m → (ordAt rs m)[placeOf rs i (rs.getD i [])]? = some (some i)
  | 0, _, i, h => absurd h (Nat.not_lt_zero _)
  | m + 1, hm, i, h => by
    have hr : rs[m]? = some (rs.getD m []) := by rw [List.getD_eq_getElem?_getD, List.getElem?_eq_getElem (show m < rs.length by (exact Ar.go [_, _] [(.P (.V 0) (.N 1), .V 1, 1)] 1 (.P (.V 0) (.N 1)) (.V 1) rfl hm))]; rfl
    have e : ordAt rs (m + 1) = (ordAt rs m).set (placeOf rs m (rs.getD m [])) (some m) := by
      show (match rs[m]? with | some r => (ordAt rs m).set (placeOf rs m r) (some m) | none => ordAt rs m) = _
      rw [hr]
    rw [e]
    rcases Nat.lt_or_ge i m with q | q
    · rw [List.getElem?_set_ne fun w => by have := inj m i (by (exact Ar.go [_, _] [(.P (.V 0) (.N 1), .V 1, 1)] 1 (.P (.V 0) (.N 1)) (.V 1) rfl hm)) (by (exact Ar.go [_, _, _] [(.P (.V 2) (.N 1), .V 1, 1), (.P (.V 0) (.N 1), .P (.V 2) (.N 1), 1)] 1 (.P (.V 0) (.N 1)) (.V 1) rfl hm h)) w; (exact Ar.fal (Ar.go [_, _] [(.P (.V 0) (.N 1), .V 1, 1), (.V 1, .V 0, 1)] 1 (.N 1) (.N 0) rfl q (Nat.le_of_eq this)))]
      exact ord_get inj m (by (exact Ar.go [_, _] [(.P (.V 0) (.N 1), .V 1, 1)] 1 (.V 0) (.V 1) rfl hm)) i q
    · obtain rfl : i = m := by (exact Nat.le_antisymm (Ar.go [_, _] [(.P (.V 0) (.N 1), .P (.V 1) (.N 1), 1)] 1 (.V 0) (.V 1) rfl h) (Ar.go [_, _] [(.V 0, .V 1, 1)] 1 (.V 0) (.V 1) rfl q))
      exact List.getElem?_set_self (by rw [ordAt_len]; exact placeOf_lt hr)
theorem order_ok {rs : List (List Str)} {p : Array Nat} (hp : p.Perm (List.range rs.length).toArray) (hu : Srt.Up (rkOf rs) p rs.length) : ordAt rs rs.length = p.toList.map some := by
  have hpl : p.toList.Perm (List.range rs.length) := by simpa using Array.perm_iff_toList_perm.mp hp
  have hlen : p.toList.length = rs.length := by simpa using hpl.length_eq
  have hlt : ∀ i ∈ p.toList, i < rs.length := fun i hi => List.mem_range.mp (hpl.mem_iff.mp hi)
  have hat : ∀ a (h : a < p.toList.length), Srt.At p a = p.toList[a] := fun a h => by
    have : a < p.size := by simpa using h
    simp [Srt.At, this]
  have pos : ∀ a (h : a < p.toList.length), placeOf rs p.toList[a] (rs.getD p.toList[a] []) = a := fun a h => by
    have hi := hlt _ (List.getElem_mem h)
    rw [place_is hi, ← hpl.countP_eq]
    refine countP_front _ _ a (Nat.le_of_lt h) fun b hb => ?_
    have hj := hlt _ (List.getElem_mem hb)
    rcases Nat.lt_trichotomy b a with q | q | q
    · rw [decide_eq_true q]
      have u := hu b a q (by (exact Ar.go [_, _, _] [(.V 2, .V 1, 1), (.P (.V 0) (.N 1), .V 2, 1)] 1 (.P (.V 0) (.N 1)) (.V 1) rfl (Nat.le_of_eq hlen) h))
      rw [hat b hb, hat a h] at u
      exact (ahead_is hj hi).mpr u
    · subst q
      rw [decide_eq_false (Nat.lt_irrefl _)]
      cases w : ahead rs p.toList[b] p.toList[b] with
      | false => rfl
      | true => have := (ahead_is hi hi).mp w; unfold Srt.Pr at this; lia
    · rw [decide_eq_false (by (exact Nat.not_lt_of_le (Ar.go [_, _] [(.P (.V 0) (.N 1), .V 1, 1)] 1 (.V 0) (.V 1) rfl q)))]
      have u := hu a b q (by (exact Ar.go [_, _, _] [(.V 2, .V 1, 1), (.P (.V 0) (.N 1), .V 2, 1)] 1 (.P (.V 0) (.N 1)) (.V 1) rfl (Nat.le_of_eq hlen) hb))
      rw [hat b hb, hat a h] at u
      cases w : ahead rs p.toList[b] p.toList[a] with
      | false => rfl
      | true => have := (ahead_is hj hi).mp w; unfold Srt.Pr at this u; lia
  have inj : ∀ i j, i < rs.length → j < rs.length → placeOf rs i (rs.getD i []) = placeOf rs j (rs.getD j []) → i = j := by
    intro i j hi hj e
    obtain ⟨a, ha, rfl⟩ := List.mem_iff_getElem.mp (hpl.mem_iff.mpr (List.mem_range.mpr hi))
    obtain ⟨b, hb, rfl⟩ := List.mem_iff_getElem.mp (hpl.mem_iff.mpr (List.mem_range.mpr hj))
    rw [pos a ha, pos b hb] at e
    subst e
    rfl
  refine List.ext_getElem? fun a => ?_
  rw [List.getElem?_map]
  by_cases h : a < p.toList.length
  · have g := ord_get inj rs.length (Nat.le_refl _) p.toList[a] (hlt _ (List.getElem_mem h))
    rw [pos a h] at g
    rw [g, List.getElem?_eq_getElem h]
    rfl
  · rw [List.getElem?_eq_none (by rw [ordAt_len]; (exact Ar.go [_, _, _] [(.V 0, .V 2, 1), (.V 2, .V 1, 1)] 1 (.V 0) (.V 1) rfl (Nat.le_of_eq hlen.symm) (Nat.le_of_not_lt h))), List.getElem?_eq_none (by (exact Ar.go [_, _] [(.V 0, .V 1, 1)] 1 (.V 0) (.V 1) rfl (Nat.le_of_not_lt h)))]
    rfl
noncomputable def minR (rs : List (List Str)) : List Str := rowAtD (rs.map List.reverse) (argBest (ltAt (rs.map List.reverse)) ((rs.map List.reverse).length - 1))
noncomputable def maxR (rs : List (List Str)) : List Str := rowAtD (rs.map List.reverse) (argBest (gtAt (rs.map List.reverse)) ((rs.map List.reverse).length - 1))
theorem rowAtD_mem {S : List (List Str)} {i : Nat} (h : i < S.length) : rowAtD S i ∈ S := by
  unfold rowAtD
  rw [List.getD_eq_getElem?_getD, List.getElem?_eq_getElem h]
  exact List.getElem_mem h
theorem common_ok {rs : List (List Str)} (hok : ∀ r ∈ rs, RowOk r) {r0 : List Str} (h0 : rs[0]? = some r0) : minR rs ∈ rs.map List.reverse ∧ maxR rs ∈ rs.map List.reverse ∧ (∀ i, i < (minR rs).length → (minR rs).take i = (maxR rs).take i → i < (maxR rs).length) ∧ commonOf (minR rs) (maxR rs) = sharedOf rs r0 := by
  have hpos : 0 < rs.length := (List.getElem?_eq_some_iff.mp h0).1
  have hSl : (rs.map List.reverse).length = rs.length := List.length_map _
  have lo : ∀ k, k < rs.length → ltL (rowAtD (rs.map List.reverse) k) (minR rs) = false := fun k hk => min_le _ _ k (by (exact Ar.go [_, _, _, _] [(.V 2, .V 3, 1), (.P (.V 0) (.N 1), .V 2, 1), (.V 3, .P (.V 1) (.N 1), 1)] 1 (.V 0) (.V 1) rfl (Nat.le_of_eq hSl.symm) hk (Ar.up _ _)))
  have hi : ∀ k, k < rs.length → ltL (maxR rs) (rowAtD (rs.map List.reverse) k) = false := fun k hk => max_ge _ _ k (by (exact Ar.go [_, _, _, _] [(.V 2, .V 3, 1), (.P (.V 0) (.N 1), .V 2, 1), (.V 3, .P (.V 1) (.N 1), 1)] 1 (.V 0) (.V 1) rfl (Nat.le_of_eq hSl.symm) hk (Ar.up _ _)))
  have m1 : minR rs ∈ rs.map List.reverse := rowAtD_mem (Nat.lt_of_le_of_lt (best_le _) (by (exact Ar.go [_, _] [(.P (.V 0) (.N 1), .V 1, 1)] 1 (.P (.V 0) (.N 1)) (.V 1) rfl (Ar.dn (Ar.go [_, _] [(.P (.N 0) (.N 1), .V 1, 1), (.V 1, .V 0, 1)] 1 (.N 1) (.V 0) rfl hpos (Nat.le_of_eq hSl.symm))))))
  have m2 : maxR rs ∈ rs.map List.reverse := rowAtD_mem (Nat.lt_of_le_of_lt (best_le _) (by (exact Ar.go [_, _] [(.P (.V 0) (.N 1), .V 1, 1)] 1 (.P (.V 0) (.N 1)) (.V 1) rfl (Ar.dn (Ar.go [_, _] [(.P (.N 0) (.N 1), .V 1, 1), (.V 1, .V 0, 1)] 1 (.N 1) (.V 0) rfl hpos (Nat.le_of_eq hSl.symm))))))
  have at_of : ∀ s ∈ rs.map List.reverse, ∃ k, k < rs.length ∧ rowAtD (rs.map List.reverse) k = s := fun s hs => by
    obtain ⟨k, hk, rfl⟩ := List.mem_iff_getElem.mp hs
    exact ⟨k, by (exact Ar.go [_, _, _] [(.V 2, .V 1, 1), (.P (.V 0) (.N 1), .V 2, 1)] 1 (.P (.V 0) (.N 1)) (.V 1) rfl (Nat.le_of_eq hSl) hk), rowAtD_of (List.getElem?_eq_getElem hk)⟩
  have lo' : ∀ s ∈ rs.map List.reverse, ltL s (minR rs) = false := fun s hs => by
    obtain ⟨k, hk, rfl⟩ := at_of s hs
    exact lo k hk
  have hi' : ∀ s ∈ rs.map List.reverse, ltL (maxR rs) s = false := fun s hs => by
    obtain ⟨k, hk, rfl⟩ := at_of s hs
    exact hi k hk
  have pre : ∀ r ∈ rs, ∃ u, r.reverse = commonOf (minR rs) (maxR rs) ++ u := fun r hr => between_pre _ _ _ (lo' _ (List.mem_map_of_mem hr)) (hi' _ (List.mem_map_of_mem hr))
  have h0m : r0 ∈ rs := List.mem_of_getElem? h0
  refine ⟨m1, m2, fun i h1 h2 => ?_, ?_⟩
  · refine Nat.lt_of_not_le fun q => ?_
    rw [List.take_of_length_le q] at h2
    have l1 := lt_of_pre (minR rs) i h1
    rw [h2, lo' _ m2] at l1
    cases l1
  · obtain ⟨u0, e0⟩ := pre r0 h0m
    have hc : (commonOf (minR rs) (maxR rs)).length ≤ r0.length := by
      have := congrArg List.length e0
      rw [List.length_reverse, List.length_append] at this
      (exact Ar.go [_, _, _] [(.P (.V 0) (.V 2), .V 1, 1)] 1 (.V 0) (.V 1) rfl (Nat.le_of_eq this.symm))
    have K := goShared_is rs r0 (commonOf (minR rs) (maxR rs)).length r0.length 0 (fun j _ hj => ?_) (fun hlt => ?_) (Nat.zero_le _) (by (exact Ar.go [_, _] [(.V 0, .V 1, 1)] 1 (.V 0) (.P (.N 0) (.V 1)) rfl hc))
    · unfold sharedOf
      rw [K]
      conv => rhs; rw [e0]
      rw [List.take_left']
      rfl
    · refine List.all_eq_true.mpr fun q hq => ?_
      obtain ⟨u, e⟩ := pre q hq
      rw [e, e0, List.take_append_of_le_length (by (exact Ar.go [_, _] [(.P (.V 0) (.N 1), .V 1, 1)] 1 (.P (.V 0) (.N 1)) (.V 1) rfl hj)), List.take_append_of_le_length (by (exact Ar.go [_, _] [(.P (.V 0) (.N 1), .V 1, 1)] 1 (.P (.V 0) (.N 1)) (.V 1) rfl hj))]
      simp
    · cases q : agree rs r0 (commonOf (minR rs) (maxR rs)).length with
      | false => rfl
      | true =>
        have ag : ∀ s ∈ rs.map List.reverse, s.take ((commonOf (minR rs) (maxR rs)).length + 1) = r0.reverse.take ((commonOf (minR rs) (maxR rs)).length + 1) := fun s hs => by
          obtain ⟨r, hr, rfl⟩ := List.mem_map.mp hs
          exact eq_of_beq (List.all_eq_true.mp q r hr)
        have ln : ∀ s ∈ rs.map List.reverse, (commonOf (minR rs) (maxR rs)).length + 1 ≤ s.length := fun s hs => by
          have := congrArg List.length (ag s hs)
          rw [List.length_take, List.length_take, List.length_reverse] at this
          (exact Ar.go [_, _, _, _] [(.V 2, .V 3, 1), (.V 3, .V 1, 1), (.P (.V 0) (.N 1), .V 2, 1)] 1 (.P (.V 0) (.N 1)) (.V 1) rfl (Nat.le_of_eq this.symm) (Nat.min_le_right _ _) (Nat.le_of_eq (Nat.min_eq_left (Ar.go [_, _] [(.P (.V 0) (.N 1), .P (.N 0) (.V 1), 1)] 1 (.P (.V 0) (.N 1)) (.V 1) rfl hlt)).symm))
        have := common_more _ _ _ ((ag _ m1).trans (ag _ m2).symm) (ln _ m1) (ln _ m2)
        lia
end Mine
end
section
open Mine.h30 Mine.h15 Mine.h3 Mine.h4 Mine.h16 Mine.h2 Mine.h32
open PySem PySem.Spec PySem.Calls PySem.W PyProof.Rows
namespace Mine
variable {p : Program} {loose : List Str} {w : World} {mean : ExcName → Option Value} {mg mb : Str → Option Value}

set_option maxHeartbeats 0
noncomputable def PairsIn (led : List (Addr × Obj)) (vs : List Value) (rs : List (List Str)) : Prop := ∀ i v, vs[i]? = some v → ∃ x t1 t2, v = Value.ref x ∧ (x, listOf #[.str (usOf rs i) t1, .int (i : Int) t2] 0) ∈ led
theorem PairsIn.mono {led led' : List (Addr × Obj)} {vs : List Value} {rs : List (List Str)} (h : PairsIn led vs rs) (hs : ∀ q ∈ led, q ∈ led') : PairsIn led' vs rs := fun i v hv => by
  obtain ⟨x, t1, t2, e, h1⟩ := h i v hv
  exact ⟨x, t1, t2, e, hs _ h1⟩
theorem law_sorted {dp un : Nat} {gd : Option (List Code)} {a l L D D2 D3 D4 : Addr} {ccd : Value} {outer : List Env} {A₀ : Around} {base h₀ : Heap} {s : Shared} {ys us : List Value} {rs : List (List Str)} {own : List (Addr × Obj)} {cT : Obj} {Q : Flow → Shared → Prop} {E : Value → Shared → Prop}
    (B : Below A₀ base outer h₀) (F : Fr h₀ L s.heap (lawMap l D D2 D4)) (X : (Mine.hd.heap_1 w.params).In h₀) (N : News h₀ L s.heap (own ++ [(L + 1, cT), (30, tabObj #[])])) (T : Top p loose mean mg mb h₀) (hA : Apart L own)
    (hD : (D, LCg.lst ys) ∈ own) (hr : RowsIn own ys rs) (hD3 : (D3, LCg.lst us) ∈ own) (hU : StrsAre us (rs.map fun r => pathOf r.reverse))
    (hok : ∀ r ∈ rs, RowOk r) (hz : rs.length ≤ 9) (hz3 : 3 ≤ rs.length) (hL : (30 : Nat) < L) (hcT : cT.data = .cell (some (.ref D3))) (hd : dp + 600 < recursionLimit) (hu : un + 3000 < cLine)
    (next : ∀ D5 ps (q : Array Nat) vs c led h' tk', q.Perm (List.range rs.length).toArray → Srt.Up (rkOf rs) q rs.length → Fr h₀ L h' (fun y => List.lookup y [(("ordered" : Str), Value.ref D5), (("due" : Str), Value.ref D4), (("paths" : Str), Value.ref D2), (("rows" : Str), Value.ref D), (("script" : Str), Value.ref l)]) → News h₀ L h' led →
      (∀ q ∈ own, q ∈ led) → (L + 1, cT) ∈ led → (30, tabObj ps) ∈ led → (D5, listOf (q.toList.map fun i => vs.getD i Value.none).toArray c) ∈ led → vs.length = rs.length → PairsIn led vs rs →
      wpAny (model PySem.Challenge.rw_ik0191_01.row.prog w) (lawTop dp un gd L a ccd outer) (execs (lawLit.body.drop 6) (envL L a ccd)) Q E { s with heap := h', toks := tk' }) :
    wpAny (model PySem.Challenge.rw_ik0191_01.row.prog w) (lawTop dp un gd L a ccd outer) (execs (lawLit.body.drop 5) (envL L a ccd)) Q E s := by
  revert X; k_fill; intro X
  obtain ⟨hh, g, d, t, os⟩ := s
  dsimp only [lawMap] at F N next
  dsimp only [lawLit, lawTop, envL, List.drop_succ_cons, List.drop_zero]
  replace N : News h₀ L hh ((L + 1, cT) :: (30, tabObj #[]) :: own) := fun q hq => N q (by
    exact sub_c (List.mem_append_right _ (.head _)) (sub_c (List.mem_append_right _ (.tail _ (.head _))) fun p h => List.mem_append_left _ h) q hq)
  have hul : us.length = rs.length := by rw [strs_len hU, List.length_map]
  refine wpAny_execs_then ?_
  k_steps
  refine Halt.go ?_
  refine LCg.ListComp_U F (by with_unfolding_all rfl) (by decide) (by rfl) (by decide) (by rfl) ?_
  k_steps
  refine Halt.go ?_
  refine call_len_led (vs := ys) (n := ys.length) N (.tail _ (.tail _ hD)) (by have := hr.1; (exact Ar.go [_, _] [(.V 1, .N 9, 1), (.V 0, .V 1, 1)] 1 (.V 0) (.N 1000) rfl hz (Nat.le_of_eq this))) ?_
  k_steps
  refine Halt.go ?_
  rename IsRange _ _ _ _ _ _ _ _ => R2
  rename Fr _ _ _ _ => F2
  rename News _ _ _ _ => N2
  refine LCg.CompSrc.range (n := ys.length) rfl F2 N2 R2 (small_one (by (decide)) (by (decide)) (by have := hr.1; (exact Int.le_trans (by decide) (Int.natCast_nonneg _))) (by have := hr.1; lia)) (by rw [rangeSize_one]; lia) (by have := hr.1; rw [sizeLine_eq]; (exact Ar.go [_, _] [(.V 1, .N 9, 1), (.V 0, .V 1, 1)] 1 (.V 0) (.N 16777216) rfl hz (Nat.le_of_eq this))) ?_
  intro g9
  dsimp only
  refine comp_inv (fun i xs nw => ∃ own2, nw = (L + 1, cT) :: (30, tabObj #[]) :: (own2 ++ own) ∧ xs.length = i ∧ PairsIn own2 xs rs ∧ (∀ q ∈ own2, ((@Ne Nat q.1 30)))) ⟨[], rfl, rfl, fun i v h => by simp at h, fun _ h => nomatch h⟩ ?turn ?fin
  case turn =>
    intro i v I oI C oC D6 m₂ xs nw h9 tk9 E9 hi9 hJ hv hC hx9 F9 N9 off ne
    obtain ⟨own2, rfl, hxl, hP, h30⟩ := hJ
    obtain ⟨tv, rfl⟩ := hv
    have hi2 : i < rs.length := by rw [← hr.1]; exact hi9
    have hri : rs[i]? = some rs[i] := List.getElem?_eq_getElem hi2
    obtain ⟨tu, htu⟩ := strs_at hU i (pathOf rs[i].reverse) (by rw [List.getElem?_map, hri]; rfl)
    rw [Int.zero_add] at hx9
    have hus : usOf rs i = pathOf rs[i].reverse := by unfold usOf; rw [List.getD_eq_getElem?_getD, hri]; rfl
    rw [← hus] at htu
    have dT := hcT
    k_steps
    refine Halt.go ?_
    refine item_ledL (vs := us) (n := us.length) N9 (.tail _ (.tail _ (.tail _ (.tail _ (.tail _ (List.mem_append_right _ hD3)))))) (by (exact Int.natCast_nonneg _)) (by (exact Ar.cl (n := 9223372036854775808) (Ar.go [_, _] [(.V 1, .N 9, 1), (.P (.V 0) (.N 1), .V 1, 1)] 1 (.P (.V 0) (.N 1)) (.N 9223372036854775808) rfl hz hi2) (by rfl))) (by rw [Int.toNat_natCast]; exact htu) ?_
    k_steps
    rename Fr _ _ _ _ => F8
    rename News _ _ _ _ => N8
    rename (I < _ ∧ _) => l8
    rename_i D8 h8
    refine LCg.CompEnd.intro F8 N8 ((L + 1, cT) :: (30, tabObj #[]) :: (((D8, W.listOf #[Value.str (usOf rs i) tu, Value.int (i : Int) tv] 0) :: own2) ++ own)) ?sub ⟨off.1, off.2.1, ⟨Nat.ne_of_gt l8.1, Nat.ne_of_gt l8.2.1, Nat.ne_of_gt l8.2.2.1⟩, off.2.2⟩ trivial ⟨_, rfl, by simp [hxl], ?_, ?_⟩
    case sub =>
      intro q hq
      rcases List.mem_cons.mp hq with rfl | hq
      · exact .tail _ (.head _)
      rcases List.mem_cons.mp hq with rfl | hq
      · exact .tail _ (.tail _ (.head _))
      rcases List.mem_cons.mp hq with rfl | hq
      · exact .tail _ (.tail _ (.tail _ (.head _)))
      rcases List.mem_cons.mp hq with rfl | hq
      · exact .tail _ (.tail _ (.tail _ (.tail _ (.head _))))
      rcases List.mem_cons.mp hq with rfl | hq
      · exact .tail _ (.tail _ (.tail _ (.tail _ (.tail _ (.head _)))))
      rcases List.mem_cons.mp hq with rfl | hq
      · exact .head _
      · exact .tail _ (.tail _ (.tail _ (.tail _ (.tail _ (.tail _ hq)))))
    · intro j v hv
      by_cases hj : j < xs.length
      · rw [List.getElem?_append_left hj] at hv
        obtain ⟨x, t1, t2, e, h1⟩ := hP j v hv
        exact ⟨x, t1, t2, e, .tail _ h1⟩
      · have hl := (List.getElem?_eq_some_iff.mp hv).1
        rw [List.length_append, List.length_singleton] at hl
        obtain rfl : j = i := by (exact Nat.le_antisymm (Ar.go [_, _, _] [(.V 2, .V 1, 1), (.P (.V 0) (.N 1), .P (.V 2) (.N 1), 1)] 1 (.V 0) (.V 1) rfl (Nat.le_of_eq hxl) hl) (Ar.go [_, _, _] [(.V 0, .V 2, 1), (.V 2, .V 1, 1)] 1 (.V 0) (.V 1) rfl (Nat.le_of_eq hxl.symm) (Nat.le_of_not_lt hj)))
        rw [List.getElem?_append_right (by (exact Ar.go [_, _] [(.V 0, .V 1, 1)] 1 (.V 0) (.V 1) rfl (Nat.le_of_not_lt hj))), hxl, Nat.sub_self] at hv
        exact ⟨D8, tu, tv, (Option.some.inj hv).symm, .head _⟩
    · intro q hq
      rcases List.mem_cons.mp hq with rfl | hq
      · exact Nat.ne_of_gt l8.2.2.2.2.1
      · exact h30 q hq
  case fin =>
    rintro xs nw ⟨own2, rfl, hxl, hP, h30⟩
    intro D5 h5 tk5 F5 N5 o5
    have o6 := off1_mem o5
    k_steps
    refine Halt.go ?_
    refine (ctk (p := p) (loose := loose) (w := w) (mean := mean) (mg := mg) (mb := mb)).spec _ _ _ _ _ _ _ _ _ _ _ _ _ _ _ ((D5, LCg.lst xs) :: (L + 1, cT) :: (own2 ++ own)) _ _ _ B F5 X N5 T rfl (.tail _ (.tail _ (.head _))) ?hrest (by (exact Ar.go [_, _] [(.P (.P (.V 0) (.N 600)) (.N 1), .V 1, 1)] 1 (.P (.P (.V 0) (.N 500)) (.N 1)) (.V 1) rfl hd)) (by (exact Ar.go [_, _] [(.P (.P (.V 0) (.N 3000)) (.N 1), .V 1, 1)] 1 (.P (.P (.V 0) (.N 1500)) (.N 1)) (.V 1) rfl hu)) ?_
    case hrest =>
      intro q hq
      have e30 : (30 : Nat) ≠ L + 1 := by (exact fun he9 => Ar.fal (Ar.go [_] [(.P (.N 30) (.N 1), .V 0, 1), (.P (.V 0) (.N 1), .N 30, 1)] 2 (.N 1) (.N 0) rfl hL (Nat.le_of_eq he9.symm)))
      simp only [List.mem_cons, List.mem_append] at hq ⊢
      rcases hq with rfl | rfl | hq | hq
      · exact ⟨.inl rfl, Ne.symm (o6 _ (.tail _ (.head _)))⟩
      · exact ⟨.inr (.inl rfl), Ne.symm e30⟩
      · exact ⟨by simp [hq], h30 q hq⟩
      · exact ⟨by simp [hq], (hA q hq).2⟩
    intro cell B7 ns7 K7 md7 oc7 tK7 tm7 hs7 tk7 x79 x757 ho7 hd7 m16 m24 m32 m40 m48 m56 ps7 h7 t7 hoc F7 N7
    dsimp only
    k_steps
    refine Halt.go ?_
    have hxr : xs.length = rs.length := by rw [hxl]; exact hr.1
    refine sortK (k := ⟨B7, ns7, K7, md7, m16.f, m24.f, m32.f, m40.f, m48.f, m56.f, x79, x757, tK7, tm7, hs7, tk7, ho7, hd7, _, _⟩) (vn := (ctk (p := p) (loose := loose) (w := w) (mean := mean) (mg := mg) (mb := mb)).vn) (m16 := m16) (m24 := m24) (cell := cell) (vs := xs) (us := usOf rs) (rk := rkOf rs) B F7 X N7 T rfl ?need ?n16 ?n24 rfl rfl (.head _) hoc (led_list N7 (its := xs.toArray) (n := xs.length) (.tail _ (List.mem_append_right _ (.tail _ (.head _))))) (by (exact Ar.go [_, _] [(.N 3, .V 1, 2), (.V 1, .V 0, 2)] 3 (.N 2) (.V 0) rfl hz3 (Nat.le_of_eq hxr.symm))) (by (exact Ar.go [_, _] [(.V 1, .N 9, 1), (.V 0, .V 1, 1)] 1 (.P (.V 0) (.N 1)) (.N 64) rfl hz (Nat.le_of_eq hxr))) ?hvs ?hrk (by (exact Ar.go [_, _] [(.P (.P (.V 0) (.N 600)) (.N 1), .V 1, 1)] 1 (.P (.P (.V 0) (.N 20)) (.N 1)) (.V 1) rfl hd)) (by (exact Ar.go [_, _] [(.P (.P (.V 0) (.N 3000)) (.N 1), .V 1, 1)] 1 (.P (.P (.V 0) (.N 300)) (.N 1)) (.V 1) rfl hu)) ?_
    case need =>
      intro q hq
      unfold C2.Kd.fr at hq
      simp only [List.mem_cons, List.not_mem_nil, or_false] at hq
      rcases hq with rfl | rfl | rfl | rfl | rfl
      · exact .tail _ (List.mem_append_left _ (List.mem_append_left _ (.tail _ (.head _))))
      · exact .tail _ (List.mem_append_left _ (List.mem_append_left _ (.tail _ (.tail _ (.head _)))))
      · exact .tail _ (List.mem_append_left _ (List.mem_append_left _ (.head _)))
      · exact .tail _ (List.mem_append_left _ (List.mem_append_right _ (.head _)))
      · exact .tail _ (List.mem_append_left _ (List.mem_append_right _ (.tail _ (.tail _ (.head _)))))
    case n16 => exact .tail _ (List.mem_append_left _ (List.mem_append_right _ (.tail _ (.head _))))
    case n24 => exact .tail _ (List.mem_append_left _ (List.mem_append_right _ (.tail _ (.tail _ (.tail _ (.head _))))))
    case hvs =>
      intro i v hv
      obtain ⟨x, t1, t2, e, h1⟩ := hP i v hv
      exact ⟨x, t1, t2, (i : Int), 0, e, .tail _ (List.mem_append_right _ (.tail _ (.tail _ (.tail _ (List.mem_append_left _ h1)))))⟩
    case hrk =>
      intro i j hi hj
      exact rank_ok hok (by (exact Ar.go [_, _, _] [(.V 2, .V 1, 1), (.P (.V 0) (.N 1), .V 2, 1)] 1 (.P (.V 0) (.N 1)) (.V 1) rfl (Nat.le_of_eq hxr) hi)) (by (exact Ar.go [_, _, _] [(.V 2, .V 1, 1), (.P (.V 0) (.N 1), .V 2, 1)] 1 (.P (.V 0) (.N 1)) (.V 1) rfl (Nat.le_of_eq hxr) hj))
    intro D9 q9 h9 t9 c9 hp9 hu9 F9 N9 l9
    dsimp only
    rw [hxr] at hp9 hu9
    k_steps
    rename Fr _ _ _ _ => F10
    rename News _ _ _ _ => N10
    refine Cut.mk (next D9 ps7 q9 xs c9 _ _ _ hp9 hu9 (by rw [← map_push]; exact F10) N10 (fun q hq => ?_) ?_ ?_ (.head _) hxr (hP.mono fun q hq => ?_))
    · exact .tail _ (.tail _ (List.mem_append_right _ (.tail _ (.tail _ (.tail _ (List.mem_append_right _ hq))))))
    · exact .tail _ (.tail _ (List.mem_append_right _ (.tail _ (.tail _ (.head _)))))
    · exact .tail _ (.tail _ (List.mem_append_right _ (.head _)))
    · exact .tail _ (.tail _ (List.mem_append_right _ (.tail _ (.tail _ (.tail _ (List.mem_append_left _ hq))))))
end Mine
end
section
open Mine.h30 Mine.h15 Mine.h3 Mine.h4 Mine.h16 Mine.h11
open PySem PySem.Spec PySem.Calls PySem.W PyProof.Rows
namespace Mine
variable {p : Program} {loose : List Str} {w : World} {mean : ExcName → Option Value} {mg mb : Str → Option Value}

set_option maxHeartbeats 0
theorem ints_push {vs : List Value} {ns : List Int} {n : Int} {t : Tok} (h : IntsAre vs ns) : IntsAre (vs ++ [.int n t]) (ns ++ [n]) := by
  induction h with
  | nil => exact .cons _ _ .nil
  | cons y t _ ih => exact .cons _ _ ih
theorem ints_of {vs : List Value} {l : List Nat} (h : OrdAre vs (l.map some)) : IntsAre vs (l.map fun k : Nat => (k : Int)) := by
  induction l generalizing vs with
  | nil =>
    have : vs = [] := by have := h.1; simpa using this
    rw [this]; exact .nil
  | cons k l ih =>
    obtain ⟨h1, h2⟩ := h
    cases vs with
    | nil => simp at h1
    | cons v vs =>
      obtain ⟨t, ht⟩ := h2 0 (some k) rfl
      obtain rfl : v = _ := Option.some.inj ht
      refine .cons _ _ (ih ⟨by simpa using h1, fun j o hj => h2 (j + 1) o hj⟩)
noncomputable abbrev lawMap2 (l D D2 D4 D5 : Addr) : Str → Option Value := fun y => List.lookup y [(("ordered" : Str), Value.ref D5), (("due" : Str), Value.ref D4), (("paths" : Str), Value.ref D2), (("rows" : Str), Value.ref D), (("script" : Str), Value.ref l)]
theorem law_third {dp un : Nat} {gd : Option (List Code)} {a l L D D2 D4 D5 : Addr} {ccd : Value} {outer : List Env} {A₀ : Around} {base h₀ : Heap} {s : Shared} {ys vs : List Value} {rs : List (List Str)} {led : List (Addr × Obj)} {q : Array Nat} {c : Nat} {Q : Flow → Shared → Prop} {E : Value → Shared → Prop}
    (B : Below A₀ base outer h₀) (F : Fr h₀ L s.heap (lawMap2 l D D2 D4 D5)) (X : (Mine.hd.heap_1 w.params).In h₀) (N : News h₀ L s.heap led) (T : Top p loose mean mg mb h₀)
    (hD : (D, LCg.lst ys) ∈ led) (hr : RowsIn led ys rs) (hD5 : (D5, listOf (q.toList.map fun i => vs.getD i Value.none).toArray c) ∈ led) (hvl : vs.length = rs.length) (hP : PairsIn led vs rs)
    (hq : q.Perm (List.range rs.length).toArray) (hU : Srt.Up (rkOf rs) q rs.length)
    (hok : ∀ r ∈ rs, RowOk r) (hz : rs.length ≤ 9) (hd : dp + 600 < recursionLimit) (hu : un + 3000 < cLine)
    (next : ∀ h' tk', Fr h₀ L h' (lawMap2 l D D2 D4 D5) → News h₀ L h' led →
      wpAny (model PySem.Challenge.rw_ik0191_01.row.prog w) (lawTop dp un gd L a ccd outer) (execs (lawLit.body.drop 7) (envL L a ccd)) Q E { s with heap := h', toks := tk' }) :
    wpAny (model PySem.Challenge.rw_ik0191_01.row.prog w) (lawTop dp un gd L a ccd outer) (execs (lawLit.body.drop 6) (envL L a ccd)) Q E s := by
  revert X; k_fill; intro X
  obtain ⟨hh, g, d, t, os⟩ := s
  dsimp only [lawMap2] at F N next
  dsimp only [lawLit, lawTop, envL, List.drop_succ_cons, List.drop_zero]
  have hql : q.toList.length = rs.length := by have := hq.size_eq; simpa using this
  have hqm : ∀ i ∈ q.toList, i < rs.length := fun i hi => by
    have h1 : i ∈ q := Array.mem_toList_iff.mp hi
    have h2 := hq.mem_iff.mp h1
    simpa using h2
  refine wpAny_execs_then ?_
  k_steps
  refine Halt.go ?_
  refine LCg.ListComp_U F (by with_unfolding_all rfl) (by decide) (by rfl) (by decide) (by rfl) ?_
  k_steps
  refine Halt.go ?_
  refine LCg.CompSrc.ledger (its := (q.toList.map fun i => vs.getD i Value.none).toArray) rfl F N hD5 (by rw [List.size_toArray, sizeLine_eq, List.length_map, hql]; exact Nat.le_trans hz (by decide)) ?_
  intro g9
  dsimp only
  refine comp_inv (fun i zs nw => nw = _ ∧ IntsAre zs ((q.toList.take i).map fun k : Nat => (k : Int))) ⟨rfl, .nil⟩ ?turn ?fin
  case turn =>
    intro i v I oI C oC D6 m₂ zs nw h9 tk9 E9 hi9 hJ hv hC hx9 F9 N9 off ne
    obtain ⟨rfl, hI⟩ := hJ
    have hi2 : i < q.toList.length := by simpa using hi9
    have hqi : q.toList[i]? = some q.toList[i] := List.getElem?_eq_getElem hi2
    have hk := hqm _ (List.getElem_mem hi2)
    have hvk : vs[q.toList[i]]? = some (vs[q.toList[i]]'(by (exact Ar.go [_, _, _] [(.V 2, .V 1, 1), (.P (.V 0) (.N 1), .V 2, 1)] 1 (.P (.V 0) (.N 1)) (.V 1) rfl (Nat.le_of_eq hvl.symm) hk))) := List.getElem?_eq_getElem (by (exact Ar.go [_, _, _] [(.V 2, .V 1, 1), (.P (.V 0) (.N 1), .V 2, 1)] 1 (.P (.V 0) (.N 1)) (.V 1) rfl (Nat.le_of_eq hvl.symm) hk))
    obtain ⟨x, t1, t2, e, h1⟩ := hP _ _ hvk
    obtain rfl : v = .ref x := by
      have : _ = some v := hv
      rw [List.getElem?_toArray, List.getElem?_map, hqi] at this
      have h2 : vs.getD q.toList[i] Value.none = v := Option.some.inj this
      rw [List.getD_eq_getElem?_getD, hvk] at h2
      rw [← h2]; exact e
    k_steps
    refine Halt.go ?_
    refine item_ledL (vs := [.str (usOf rs q.toList[i]) t1, .int (q.toList[i] : Int) t2]) (n := 0) N9 (.tail _ (.tail _ (.tail _ h1))) (by decide) (by decide) rfl ?_
    refine LCg.CompEnd.intro F9 N9 _ (fun q h => h) off (.inr ⟨_, hD5, rfl, _, rfl⟩) ⟨rfl, ?_⟩
    rw [List.take_add_one, hqi, Option.toList_some, List.map_append]
    exact ints_push hI
  case fin =>
    rintro zs nw ⟨rfl, hI⟩
    rw [List.take_of_length_le (by simp)] at hI
    intro D6 h6 tk6 F6 N6 o6
    k_steps
    refine Halt.go ?_
    refine spec_use (ordered_spec D ys rs ys.length _ hD hr (by rw [hr.1]; exact hz) (fun r h => (hok r h).2.1)) (by k_asm) F6 (by k_asm) N6 (by k_asm) rfl (fun q h => .tail _ h) (by (exact Ar.go [_, _] [(.P (.P (.V 0) (.N 600)) (.N 1), .V 1, 1)] 1 (.P (.P (.V 0) (.N 20)) (.N 1)) (.V 1) rfl hd)) (by (exact Ar.go [_, _] [(.P (.P (.V 0) (.N 3000)) (.N 1), .V 1, 1)] 1 (.P (.P (.V 0) (.N 200)) (.N 1)) (.V 1) rfl hu)) ?_
    intro a8 ws k8 hO h8 tk8 F8 N8
    rw [order_ok hq hU] at hO
    dsimp only [List.cons_append, List.nil_append] at N8 ⊢
    k_steps
    refine Halt.go ?_
    refine ne_intsK (led_list N8 (its := zs.toArray) (n := zs.length) (.tail _ (.head _))) hI (led_list N8 (its := ws.toArray) (n := k8) (.head _)) (ints_of hO) (by ktr_units) ?_
    rw [decide_eq_true rfl]
    k_steps
    exact Cut.mk (next _ _ F8 fun q h => N8 q (.tail _ (.tail _ h)))
end Mine
end
section
open Mine.h30 Mine.h4 Mine.h25 Mine.h10 Mine.h33
open PySem PySem.Spec PySem.Calls PySem.W PyProof.Rows
namespace Mine
variable {p : Program} {loose : List Str} {w : World} {mean : ExcName → Option Value} {mg mb : Str → Option Value}

set_option maxHeartbeats 0
theorem parts_all {rs : List (List Str)} (hok : ∀ r ∈ rs, RowOk r) : (rs.map fun r => pathOf r.reverse).map partsOf = rs.map List.reverse := by
  rw [List.map_map]
  exact List.map_congr_left fun r h => parts_ok (hok r h).reverse
theorem strs_takes {vs : List Value} {ss : List Str} (h : StrsAre vs ss) : ∀ k, StrsAre (vs.take k) (ss.take k) := fun k => strs_take h k
theorem common_use {rs : List (List Str)} {r0 : List Str} (hok : ∀ r ∈ rs, RowOk r) (hz : rs.length ≤ 9) (h0 : rs[0]? = some r0) (l : Addr) (vs : List Value) (n : Nat) (hS : StrsAre vs (rs.map fun r => pathOf r.reverse)) :
    Spec p loose w mean mg mb 171 30 400 [.ref l] [(l, listOf vs.toArray n)] (RStr (pathOf (sharedOf rs r0))) := by
  obtain ⟨m1, m2, ho, hc⟩ := common_ok hok h0
  have hpos : 0 < rs.length := (List.getElem?_eq_some_iff.mp h0).1
  have short : ∀ s ∈ rs.map List.reverse, s.length ≤ 4 ∧ ∀ y ∈ s, y.length = 2 := by
    intro s hs
    obtain ⟨r, hr, rfl⟩ := List.mem_map.mp hs
    have := hok r hr
    exact ⟨by simpa using this.2.1, fun y hy => (lets_ok (this.2.2 y (List.mem_reverse.mp hy))).1⟩
  have tx : ∀ x ∈ rs.map fun r => pathOf r.reverse, TextOk x := by
    intro x hx
    obtain ⟨r, hr, rfl⟩ := List.mem_map.mp hx
    exact text_ok (hok r hr).reverse
  have C := common_spec (p := p) (loose := loose) (w := w) (mean := mean) (mg := mg) (mb := mb) (minR rs) (maxR rs) l vs (rs.map fun r => pathOf r.reverse) n hS (by simpa using hz) (by simpa using hpos) (fun x hx => Nat.le_trans (tx x hx).len (by decide)) (fun x hx => (tx x hx).slash)
    (by rw [parts_all hok]; rfl) (by rw [parts_all hok]; rfl) ho (Nat.le_trans (short _ m1).1 (by decide)) (Nat.le_trans (short _ m2).1 (by decide)) (fun y hy => by rw [(short _ m1).2 y hy]; decide)
  rw [hc] at C
  exact C
theorem shared_in {rs : List (List Str)} {r0 : List Str} : ∀ y ∈ sharedOf rs r0, y ∈ r0 := fun y hy => List.mem_reverse.mp (List.mem_of_mem_take hy)
theorem shared_len {rs : List (List Str)} {r0 : List Str} : (sharedOf rs r0).length ≤ r0.length := by
  unfold sharedOf
  rw [List.length_take, List.length_reverse]
  exact Nat.min_le_right _ _
theorem join_short {ss : List Str} (hl : ss.length ≤ 4) (hb : ∀ y ∈ ss, y.length = 2) : JoinOk (Str.ofString "/") ss = true ∧ (Str.ofString "/").length + (Txt.join (Str.ofString "/") ss).length ≤ sizeLine := by
  refine ⟨joinOk_of (by decide +kernel) (by (exact Ar.go [_] [(.V 0, .N 4, 1)] 1 (.V 0) (.N 1000) rfl hl)) (fun y hy => by rw [hb y hy]; decide), ?_⟩
  have h1 := StrLaws.join_length_le (Str.ofString "/") ss
  have h2 : Txt.join (Str.ofString "/") ss = Str.join (Str.ofString "/") ss := StrLaws.glued_eq_join _ _
  have h3 : (Str.ofString "/").length = 1 := by decide +kernel
  have h4 : (ss.map (·.length)).sum ≤ 8 := by
    have : ∀ l : List Str, (∀ y ∈ l, y.length = 2) → (l.map (·.length)).sum = 2 * l.length := by
      intro l
      induction l with
      | nil => intro _; rfl
      | cons y l ih =>
        intro hl
        rw [List.map_cons, List.sum_cons, ih fun z hz => hl z (.tail _ hz), hl y (.head _), List.length_cons]
        (exact Nat.le_antisymm (Ar.go [_] [] 1 (.P (.N 2) (.L 2 (.V 0))) (.L 2 (.P (.V 0) (.N 1))) rfl) (Ar.go [_] [] 1 (.L 2 (.P (.V 0) (.N 1))) (.P (.N 2) (.L 2 (.V 0))) rfl))
    rw [this _ hb]; (exact Ar.go [_] [(.V 0, .N 4, 2)] 1 (.L 2 (.V 0)) (.N 8) rfl hl)
  rw [h2, h3, sizeLine_eq]
  rw [h3] at h1
  (exact Ar.go [_, _, _] [(.V 1, .N 4, 1), (.V 0, .P (.V 2) (.R 1 (.V 1)), 1), (.V 2, .N 8, 1)] 1 (.P (.N 1) (.V 0)) (.N 16777216) rfl hl h1 h4)
theorem RowsIn.take {led : List (Addr × Obj)} {vs : List Value} {rs : List (List Str)} (h : RowsIn led vs rs) (k : Nat) : RowsIn led (vs.take k) (rs.take k) := by
  refine ⟨by rw [List.length_take, List.length_take, h.1], fun i r hr => ?_⟩
  rw [List.getElem?_take] at hr ⊢
  split at hr
  · rename_i hi
    rw [if_pos hi]
    exact h.2 i r hr
  · cases hr
theorem law_ends {dp un : Nat} {gd : Option (List Code)} {a l L D D2 D3 D4 D5 : Addr} {ccd : Value} {outer : List Env} {A₀ : Around} {base h₀ : Heap} {s : Shared} {ys us : List Value} {rs : List (List Str)} {led : List (Addr × Obj)} {cT : Obj} {Q : Flow → Shared → Prop} {E : Value → Shared → Prop}
    (B : Below A₀ base outer h₀) (F : Fr h₀ L s.heap (lawMap2 l D D2 D4 D5)) (X : (Mine.hd.heap_1 w.params).In h₀) (N : News h₀ L s.heap led) (T : Top p loose mean mg mb h₀)
    (hD : (D, LCg.lst ys) ∈ led) (hr : RowsIn led ys rs) (hD3 : (D3, LCg.lst us) ∈ led) (hU : StrsAre us (rs.map fun r => pathOf r.reverse)) (hcm : (L + 1, cT) ∈ led) (hcT : cT.data = .cell (some (.ref D3)))
    (hok : ∀ r ∈ rs, RowOk r) (hz : rs.length ≤ 9) (hz3 : 3 ≤ rs.length) (hd : dp + 600 < recursionLimit) (hu : un + 3000 < cLine)
    (next : ∀ h' tk' m', Fr h₀ L h' m' → News h₀ L h' led → Q (.ret (.bool true)) { s with heap := h', toks := tk' }) :
    wpAny (model PySem.Challenge.rw_ik0191_01.row.prog w) (lawTop dp un gd L a ccd outer) (execs (lawLit.body.drop 7) (envL L a ccd)) Q E s := by
  revert X; k_fill; intro X
  obtain ⟨hh, g, d, t, os⟩ := s
  dsimp only [lawMap2] at F N next
  dsimp only [lawLit, lawTop, envL, List.drop_succ_cons, List.drop_zero]
  have hul : us.length = rs.length := by rw [strs_len hU, List.length_map]
  obtain ⟨r0, h0⟩ : ∃ r0, rs[0]? = some r0 := ⟨_, List.getElem?_eq_getElem (by (exact Ar.go [_] [(.N 3, .V 0, 1)] 3 (.P (.N 0) (.N 1)) (.V 0) rfl hz3))⟩
  have h02 : (rs.take 2)[0]? = some r0 := by rw [List.getElem?_take, if_pos (by decide)]; exact h0
  have hok2 : ∀ r ∈ rs.take 2, RowOk r := fun r h => hok r (List.mem_of_mem_take h)
  have hO := hok r0 (List.mem_of_getElem? h0)
  replace N : News h₀ L hh ((L + 1, cT) :: led) := fun q hq => by
    rcases List.mem_cons.mp hq with rfl | hq
    · exact N _ hcm
    · exact N _ hq
  k_steps
  refine Halt.go ?_
  refine spec_use (common_use hok hz h0 D3 us us.length hU) (by k_asm) F (by k_asm) N (by k_asm) rfl (fun q h => by rw [List.mem_singleton.mp h]; exact .tail _ hD3) (by (exact Ar.go [_, _] [(.P (.P (.V 0) (.N 600)) (.N 1), .V 1, 1)] 1 (.P (.P (.V 0) (.N 30)) (.N 1)) (.V 1) rfl hd)) (by (exact Ar.go [_, _] [(.P (.P (.V 0) (.N 3000)) (.N 1), .V 1, 1)] 1 (.P (.P (.V 0) (.N 400)) (.N 1)) (.V 1) rfl hu)) ?_
  intro t8 h8 tk8 F8 N8
  dsimp only [List.nil_append] at N8 ⊢
  k_steps
  refine Halt.go ?_
  refine take_led (s := ⟨_, _, _, _, _⟩) (k := 2) F8 N8 (vs := us) (n := us.length) (.tail _ hD3) (by (exact Ar.go [_, _] [(.V 1, .N 9, 1), (.V 0, .V 1, 1)] 1 (.V 0) (.N 1000) rfl hz (Nat.le_of_eq hul))) rfl ?_
  intro D7 h7 l7 F7 N7
  dsimp only
  k_steps
  refine Halt.go ?_
  refine spec_use (common_use hok2 (by rw [List.length_take]; (exact Ar.go [_] [(.V 0, .N 2, 1)] 1 (.V 0) (.N 9) rfl (Nat.min_le_left _ _))) h02 D7 (us.take 2) 0 (by rw [List.map_take]; exact strs_takes hU 2)) (by k_asm) F7 (by k_asm) N7 (by k_asm) rfl (fun q h => by rw [List.mem_singleton.mp h]; exact .head _) (by (exact Ar.go [_, _] [(.P (.P (.V 0) (.N 600)) (.N 1), .V 1, 1)] 1 (.P (.P (.V 0) (.N 30)) (.N 1)) (.V 1) rfl hd)) (by (exact Ar.go [_, _] [(.P (.P (.V 0) (.N 3000)) (.N 1), .V 1, 1)] 1 (.P (.P (.V 0) (.N 400)) (.N 1)) (.V 1) rfl hu)) ?_
  intro t6 h6 tk6 F6 N6
  dsimp only [List.nil_append] at N6 ⊢
  k_steps
  refine Halt.go ?_
  rename Fr _ _ _ _ => F5
  rename News _ _ _ _ => N5
  refine spec_use (shared_spec D ys rs r0 ys.length led hD hr (by rw [hr.1]; exact hz) (fun r h => (hok r h).2.1) h0) (by k_asm) F5 (by k_asm) N5 (by k_asm) rfl (fun q h => .tail _ (.tail _ (.tail _ h))) (by (exact Ar.go [_, _] [(.P (.P (.V 0) (.N 600)) (.N 1), .V 1, 1)] 1 (.P (.P (.V 0) (.N 20)) (.N 1)) (.V 1) rfl hd)) (by (exact Ar.go [_, _] [(.P (.P (.V 0) (.N 3000)) (.N 1), .V 1, 1)] 1 (.P (.P (.V 0) (.N 200)) (.N 1)) (.V 1) rfl hu)) ?_
  intro a4 ws k4 hW h4 tk4 F4 N4
  dsimp only [List.cons_append, List.nil_append] at N4 ⊢
  k_steps
  refine Halt.go ?_
  have hb2 : ∀ y ∈ r0, y.length = 2 := fun y hy => (lets_ok (hO.2.2 y hy)).1
  have j1 := join_short (ss := sharedOf rs r0) (Nat.le_trans shared_len hO.2.1) (fun y hy => hb2 y (shared_in y hy))
  refine join_led N4 (.head _) hW j1.1 ?_
  intro t3 k3
  dsimp only
  k_steps
  refine Halt.go ?_
  refine PyProof.Rows.add_str (fun t2 k2 => ?_) j1.2
  k_steps
  refine Halt.go ?_
  refine take_led (s := ⟨_, _, _, _, _⟩) (k := 2) F4 N4 (vs := ys) (n := ys.length) (.tail _ (.tail _ (.tail _ (.tail _ hD)))) (by have := hr.1; (exact Ar.go [_, _] [(.V 1, .N 9, 1), (.V 0, .V 1, 1)] 1 (.V 0) (.N 1000) rfl hz (Nat.le_of_eq this))) rfl ?_
  intro D2' h2 l2 F2 N2
  dsimp only
  k_steps
  refine Halt.go ?_
  refine spec_use (shared_spec D2' (ys.take 2) (rs.take 2) r0 0 ((D2', listOf (ys.take 2).toArray 0) :: led) (.head _) ((hr.take 2).mono fun q h => .tail _ h) (by rw [List.length_take]; have := hr.1; (exact Ar.go [_] [(.V 0, .N 2, 1)] 1 (.V 0) (.N 9) rfl (Nat.min_le_left _ _))) (fun r h => (hok2 r h).2.1) h02) (by k_asm) F2 (by k_asm) N2 (by k_asm) rfl (fun q h => by
    rcases List.mem_cons.mp h with rfl | h
    · exact .head _
    · exact .tail _ (.tail _ (.tail _ (.tail _ (.tail _ h))))) (by (exact Ar.go [_, _] [(.P (.P (.V 0) (.N 600)) (.N 1), .V 1, 1)] 1 (.P (.P (.V 0) (.N 20)) (.N 1)) (.V 1) rfl hd)) (by (exact Ar.go [_, _] [(.P (.P (.V 0) (.N 3000)) (.N 1), .V 1, 1)] 1 (.P (.P (.V 0) (.N 200)) (.N 1)) (.V 1) rfl hu)) ?_
  intro a1 ws1 k1 hW1 h1 tk1 F1 N1
  dsimp only [List.cons_append, List.nil_append] at N1 ⊢
  k_steps
  refine Halt.go ?_
  have j2 := join_short (ss := sharedOf (rs.take 2) r0) (Nat.le_trans shared_len hO.2.1) (fun y hy => hb2 y (shared_in y hy))
  refine join_led N1 (.head _) hW1 j2.1 ?_
  intro t0 k0
  dsimp only
  k_steps
  refine Halt.go ?_
  refine PyProof.Rows.add_str (fun t9' k9' => ?_) j2.2
  k_steps
  refine Halt.go ?_
  rename Fr _ _ _ _ => F12
  rename News _ _ _ _ => N12
  refine eq_strs' (xs := [pathOf (sharedOf rs r0), pathOf (sharedOf (rs.take 2) r0)]) (ys := [pathOf (sharedOf rs r0), pathOf (sharedOf (rs.take 2) r0)]) (IsStrs.led N12 (vs := [Value.str (pathOf (sharedOf rs r0)) t8, Value.str (pathOf (sharedOf (List.take 2 rs) r0)) t6]) (n := 0) (.tail _ (.tail _ (.tail _ (.tail _ (.head _))))) (.cons _ _ (.cons _ _ .nil)))
    (IsStrs.led N12 (vs := [Value.str (pathOf (sharedOf rs r0)) t2, Value.str (pathOf (sharedOf (List.take 2 rs) r0)) t9']) (n := 0) (.head _) (.cons _ _ (.cons _ _ .nil))) (by ktr_units) ?_
  rw [show ∀ x : List Str, (x == x) = true by intro x; simp]
  k_steps
  exact next _ _ _ F12 fun q h => N12 q (.tail _ (.tail _ (.tail _ (.tail _ (.tail _ (.tail _ (.tail _ h)))))))
end Mine
end
section
open PySem PySem.Spec PySem.Calls PySem.W PyProof.Rows
namespace Mine
variable {p : Program} {loose : List Str} {w : World} {mean : ExcName → Option Value} {mg mb : Str → Option Value}
theorem numsOf_len (ns : List Int) : 5 ≤ (numsOf ns).length ∧ (numsOf ns).length ≤ 9 := by
  unfold numsOf
  rw [List.length_append, List.length_take]
  simp
  (exact Ar.go [_] [(.V 0, .N 4, 1)] 1 (.V 0) (.N 4) rfl (Nat.min_le_left _ _))
theorem law_body {dp un : Nat} {gd : Option (List Code)} {l a L : Addr} {ccd : Value} {outer : List Env} {A₀ : Around} {base h₀ : Heap} {s : Shared} {vs : List Value} {ns : List Int} {cT : Obj} {Q : Flow → Shared → Prop} {E : Value → Shared → Prop}
    (B : Below A₀ base outer h₀) (F : Fr h₀ L s.heap (fun y => List.lookup y [(("script" : Str), Value.ref l)])) (X : (Mine.hd.heap_1 w.params).In h₀) (N : News h₀ L s.heap [(L + 1, cT), (30, tabObj #[])]) (T : Top p loose mean mg mb h₀)
    (hl : h₀.IsList l vs.toArray) (hi : IntsAre vs ns) (hz : vs.length ≤ 63) (hL : (30 : Nat) < L) (hcT : cT.data = .cell none) (hd : dp + 600 < recursionLimit) (hu : un + 3000 < cLine)
    (next : ∀ ps led h' tk' m', Fr h₀ L h' m' → News h₀ L h' led → (30, tabObj ps) ∈ led → Q (.ret (.bool true)) { s with heap := h', toks := tk' }) :
    wpG (model PySem.Challenge.rw_ik0191_01.row.prog w) (lawTop dp un gd L a ccd outer) (execs lawLit.body (envL L a ccd)) Q E s := by
  have hn := numsOf_len ns
  have hrl : ((numsOf ns).map rowOf).length ≤ 9 := by rw [List.length_map]; exact hn.2
  have hr3 : 3 ≤ ((numsOf ns).map rowOf).length := by rw [List.length_map]; (exact Ar.go [_] [(.N 5, .V 0, 3)] 5 (.N 3) (.V 0) rfl hn.1)
  have hok : ∀ r ∈ (numsOf ns).map rowOf, RowOk r := fun r h => by
    obtain ⟨x, _, rfl⟩ := List.mem_map.mp h
    exact rowOk_of x
  refine law_rows B F X N T hl hi hz hd hu fun D ys own h1 t1 F1 N1 A1 hD hr => ?_
  refine law_paths B F1 X N1 T A1 hD hr hok hrl hd hu fun D2 zs h2 t2 F2 N2 A2 hS => ?_
  refine law_turned B F2 X N2 T A2 (.tail _ hD) (hr.mono fun q h => .tail _ h) (.head _) hS hok hrl hL hcT hd hu fun D3 us D4 ws own3 cT3 h3 t3 F3 N3 c3 A3 s3 hD3 hD4 hU hW => ?_
  have hD' := s3 _ (.tail _ hD)
  have hr' := hr.mono fun q h => s3 q (.tail _ h)
  refine law_first B F3 X N3 T A3 (s3 _ (.head _)) hS hD3 hD4 hU hW hok hrl hr3 hL c3 hd hu fun h4 t4 F4 N4 => ?_
  refine wpG_any ?_
  refine law_second B F4 X N4 T hD' hr' hD3 hU hok hrl c3 hd hu fun h5 t5 F5 N5 => ?_
  refine law_sorted B F5 X N5 T A3 hD' hr' hD3 hU hok hrl hr3 hL c3 hd hu fun D5 ps q vs5 c led h6 t6 hq hu6 F6 N6 s6 hcm h30 hD5 hvl hP => ?_
  refine law_third B F6 X N6 T (s6 _ hD') (hr'.mono s6) hD5 hvl hP hq hu6 hok hrl hd hu fun h7 t7 F7 N7 => ?_
  exact law_ends B F7 X N7 T (s6 _ hD') (hr'.mono s6) (s6 _ hD3) hU hcm c3 hok hrl hr3 hd hu fun h8 t8 m8 F8 N8 => next ps led h8 t8 m8 F8 N8 h30
end Mine
end
section
open PySem PySem.Spec PySem.Calls PySem.W PyProof.Rows
namespace Mine
theorem top_call {prog : Program} {w : World} {A : Around} {R : Result → Shared → Prop} {s : Shared} {name : Str} {params : Arguments} {body : List Stmt} {scope : Scope} {pm cd doc : Value} {a : Addr} {o : Obj} {args : List Value} {binds : List (Str × Value)}
    (hroom : A.depth < recursionLimit) (ho : s.heap.get? a = some o) (hd : o.data = .func (docDef name params body scope pm cd doc)) (hl : s.heap.NoLimit) (hc : s.heap.CodeRec cd name)
    (hb : bindArgs (docDef name params body scope pm cd doc) ⟨args, []⟩ = pure binds) (hkind : (binds.all fun y => scope.names.lookup y.1 == some .local || scope.names.lookup y.1 == some .cell) = true)
    (hnd : ((cellsFrom 0 scope.names []).map (·.1)).Nodup) (hco : scope.isCoroutine = false) (hgen : scope.isGenerator = false) (hk : scope.kind = .function)
    (h : ∀ h₁ tk cells, Fr s.heap s.heap.objs.size h₁ (bindL (envOfC name scope s.heap.objs.size a cd).kindOf binds fun _ => none) → News s.heap s.heap.objs.size h₁ cells →
      CellsAre (bindC (envOfC name scope s.heap.objs.size a cd).kindOf binds fun _ => none) (cellsFrom (s.heap.objs.size + 1) scope.names []) cells →
      wpG (model prog w) (A.deeper (envOfC name scope s.heap.objs.size a cd)) (execs body (envOfC name scope s.heap.objs.size a cd)) (fun f s' => R (.ok (.ret (match f with | .ret v => v | _ => .none))) s') (fun _ _ => False) { s with heap := h₁, toks := tk }) :
    codeG (model prog w) A (.call (.ref a) ⟨args, []⟩) R s := by
  refine codeG_call_function (body := body) hroom ho hd hco hgen rfl hc ?_
  rw [hb]
  refine wpAny_pure (wpAny_newFunctionEnv_cells hk (kindsX hkind _) fun env' he s' x => ?_)
  subst he
  refine ⟨hl.keeps x.toInCall.keep, codeG_func ?_⟩
  obtain ⟨h₁, tk, rfl, _⟩ := x.done
  obtain ⟨cells, N, Y⟩ := Cl.news (h₀ := s.heap) (Nat.le_refl _) fun n c hm => ⟨x.cell n c (lookup_of_mem_nodup (cellsFrom_names scope.names 0 (s.heap.objs.size + 1) [] [] rfl ▸ hnd) hm), x.above n c hm⟩
  exact wpG_mono (h h₁ tk cells ⟨x.toInCall.ns, x.toInCall.keep, x.toInCall.fresh⟩ N Y) (fun _ _ q => q) fun _ _ q => q.elim
set_option genInjectivity false in
set_option genSizeOf false in
inductive LawEnd (s : Shared) (h₀ : Heap) : Result → Shared → Prop
  | mk (ps : Array Value) (led : List (Addr × Obj)) (h' : Heap) (tk' : Nat) (m' : Str → Option Value) (F : Fr h₀ s.heap.objs.size h' m') (N : News h₀ s.heap.objs.size h' led) (h30 : (30, tabObj ps) ∈ led) : LawEnd s h₀ (.ok (.ret (.bool true))) { s with heap := h', toks := tk' }
theorem T9 : PySem.Challenge.rw_ik0191_01.Holds := by
  refine Mine.hd ?_
  unfold WalkG
  k_fill
  intro w s₀ s₁ mg mb G Y fa o pm cd doc dV kV ho hd hcd hD hmg hg args vals as hpre hlay hrd hwl hlo
  have KX := km_in_of Y
  km_tabs Y
  have X := (Ground.X G).1
  have V := (Ground.X G).2
  refine Ground.open G ?_
  intro T B D TE TW
  try (refine guard_noD D (by decide +kernel) ?_; clear D)
  km_lay T hmg ho hd cd
  clear hmg
  wrow_args hpre hlay hrd hwl hlo
  rename_i ns hs1 hs2 hs3 hs4 hs5 as1 as2 l vs as3 hL hr1 hw1 hr2 hI hr3 hcond htr
  have he := Dflts.none hD rfl
  subst he
  have he2 := Dflts.noKw hD
  subst he2
  refine wpG_call (codeG_mono (R := LawEnd s₁ (ghostOf s₁.heap [(34, 30)])) ?_ ?_)
  · refine top_call (binds := [(("script" : Str), Value.ref l)]) (by decide) ho (fd_plain hd) (Top.nolimit T) hcd rfl (by rfl) (by decide) rfl rfl rfl ?_
    intro h₁ tk cells F N Y
    obtain ⟨cT, hce, hcT⟩ := CellsAre.one Y
    subst hce
    have l30 := ghost_lt hT9 F (30, tabObj #[]) (.head _)
    have F' : Fr (ghostOf s₁.heap [(34, 30)]) s₁.heap.objs.size h₁ (fun y => List.lookup y [(("script" : Str), Value.ref l)]) := by
      rw [← map_push]
      exact ghost_fr hT9 F
    have N' := ghost_news hT9 F N
    refine law_body (p := topProg) (A₀ := callerA) (base := ghostOf s₁.heap [(34, 30)]) (outer := []) (dp := 302) (un := 7) (gd := some []) (ns := ns) (ghost_below hT9) F' (ghost_K hT9 KX (by kernel_rfl)) N' (ghost_top hT9 T) (ghost_list hT9 hL) hI (by have := hI.length; omega) l30 hcT (by decide) (by decide) ?_
    intro ps led h' tk' m' F9 N9 h30
    exact ⟨ps, led, h', tk', m', F9, N9, h30⟩
  · rintro r s' ⟨ps, led, h', tk', m', F9, N9, h30⟩
    have keep : ∀ b o, b ≠ 30 → s₁.heap.get? b = some o → h'.get? b = some o := fun b o hb e => F9.keep b o (ghost_ne e (by simpa using hb))
    have t30 := hT9 (34, 30) (.head _)
    refine ⟨.inl ⟨.bool true, .bool true, [], rfl, fun _ => rfl, .bool true, ?post, fun _ => ⟨.nil, fun _ h => nomatch h⟩⟩, ⟨fun b o e => ?old, fun b o e => ?ex⟩, rfl, .of_eq hg⟩
    case post => exact postW_of (by wrow_shape) (by wtm_val) (by str_meet; first | done | w_fin)
    case old =>
      by_cases hb : b = 30
      · subst hb
        have e2 := t30.2
        rw [show (34, 30).2 = 30 from rfl, e] at e2
        obtain rfl := Option.some.inj e2
        exact .inr (.inl ⟨(t30.1.tab t30.2).isCodeTable, rfl, #[], ps, rfl, by rw [Array.empty_append]; exact (N9 _ h30).1⟩)
      · exact .inl (keep b o hb e)
    case ex =>
      by_cases hb : b = 30
      · subst hb
        exact ⟨_, (N9 _ h30).1⟩
      · exact ⟨o, keep b o hb e⟩
end Mine
end
theorem PySem.Challenge.cw_ik0191_01_holds : PySem.Challenge.rw_ik0191_01.Holds :=
  Mine.T9
