import PyProof.Rows.All
import Wide.All
import Flt.Sum
import Flt.RightMore
import OpenK.AllK
import Wide.FinOn
import PySem.Challenge.RW_kp0013_01
section
open PySem PySem.W PySem.Calls PyProof.Rows
set_option Elab.async false
set_option maxRecDepth 100000
namespace Mine

/-- a number: an int or a float -/
inductive Nm where
  | i (n : Int)
  | f (x : UInt64)
def Nm.real : Nm → UInt64
  | .i n => Float64.ofInt n
  | .f x => x
def Nm.fits : Nm → Prop
  | .i n => ¬ Flt.Over n
  | .f _ => True
def Nm.isf : Nm → Bool
  | .i _ => false
  | .f _ => true
def NmIs (v : Value) (a : Nm) : Prop := match a with
  | .i n => ∃ t, v = .int n t
  | .f x => ∃ t, v = .float x t

def fsumStep (ps : List UInt64) (x : UInt64) : List UInt64 :=
  let lt := Float64.fsumAdd ps x
  if Float64.isZero lt.2 then lt.1 else lt.1 ++ [lt.2]
def fsumFold (xs : List UInt64) : List UInt64 := xs.foldl fsumStep []
/-- no step of the sum is too great -/
def fsumOk (ps : List UInt64) : List UInt64 → Prop
  | [] => True
  | x :: r => Float64.isFinite (Float64.fsumAdd ps x).2 = true ∧ fsumOk (fsumStep ps x) r
def fsumP (xs : List UInt64) : UInt64 := Float64.fsumEnd (fsumFold xs)

theorem fsumAdd_len : ∀ (ps : List UInt64) (x : UInt64), (Float64.fsumAdd ps x).1.length ≤ ps.length
  | [], _ => Nat.le_refl _
  | y :: ps, x => by
    simp only [Float64.fsumAdd]
    split <;> (split <;> (have := fsumAdd_len ps; simp only [List.length_cons]; first | exact Nat.succ_le_succ (this _) | exact Nat.le_succ_of_le (this _)))
theorem fsumStep_len (ps : List UInt64) (x : UInt64) : (fsumStep ps x).length ≤ ps.length + 1 := by
  unfold fsumStep
  have := fsumAdd_len ps x
  dsimp only
  split <;> simp <;> omega

theorem kind_fsum : builtinKind "math.fsum" = none := by decide +kernel
theorem plain_fsum : plainId "math.fsum" = true := by decide +kernel
theorem entry_fsum : entryFor table "math.fsum" = some Builtin.«math.fsum» := entryFor_of_fast (by kernel_rfl)
theorem args_fsum (a : Value) : argsOk "math.fsum" ⟨[a], []⟩ := by unfold argsOk; kernel_rfl
theorem plain_fsum_loop : plainId "math.fsum.loop" = true := by decide +kernel
theorem entry_fsum_loop : entryFor table "math.fsum.loop" = some Builtin.«math.fsum.loop» := entryFor_of_fast (by kernel_rfl)

abbrev bitsTup (ps : List UInt64) (n : Nat) : Obj := { cls := .type "tuple", data := .seq (ps.map fun x => rawInt x.toNat).toArray n }

section
variable {prog : Program} {w : World} {A : Around} {E : Value → Shared → Prop} {s : Shared}
theorem packBits_wp {xs : List UInt64} {Q : Value → Shared → Prop} (hsz : xs.length ≤ sizeLine)
    (h : Q (.ref s.heap.objs.size) { s with heap := s.heap.push (bitsTup xs 0) }) :
    wpAny (model prog w) A (newTuple (xs.map fun x => rawInt x.toNat)) Q E s :=
  wpAny_newObj_type h (by show (xs.map fun x => rawInt x.toNat).toArray.size ≤ sizeLine; simpa using hsz)

theorem unpack_map (xs : List UInt64) : (((some (xs.map fun x => rawInt x.toNat).toArray).getD #[]).toList.map fun v => match v with | Value.int i _ => i.toNat.toUInt64 | _ => 0) = xs := by
  simp only [Option.getD_some, List.map_map]
  induction xs with
  | nil => rfl
  | cons x r ih => simp only [List.map_cons, Function.comp, rawInt, Int.toNat_natCast]; rw [show x.toNat.toUInt64 = x by simp]; congr 1
end

theorem realArg_nm {prog : Program} {w : World} {A : Around} {E : Value → Shared → Prop} {s : Shared} {Q : UInt64 → Shared → Prop} {v : Value} {a : Nm} (hA : A.handled = none) (hv : NmIs v a) (hf : a.fits)
    (h : ∀ tk, s.toks ≤ tk → Q a.real { s with toks := tk }) : wpAny (model prog w) A (Builtin.Math.realArg v) Q E s := by
  cases a with
  | i n =>
    obtain ⟨t, rfl⟩ := hv
    exact Flt.realArg_int hA (fun c => absurd c hf) fun _ => h _ (Nat.le_succ _)
  | f x =>
    obtain ⟨t, rfl⟩ := hv
    show wpAny _ _ (pure x) _ _ _
    exact wpAny_pure (h s.toks (Nat.le_refl _))

section
variable {prog : Program} {w : World} {A : Around} {R : Result → Shared → Prop} {I : Addr} {fp wr : List Addr} {G : Array GenState → Array GenState → Prop} {P : Nat → Value → Prop} {St : Nat → Shared → Prop}

theorem codeAny_fsum_loop {xs : List Nm} (hA : A.handled = none) (W : WalksS prog w A.in1 I fp wr G xs.length P St) (hval : ∀ i v, P i v → ∃ a, xs[i]? = some a ∧ NmIs v a) (hfit : ∀ a ∈ xs, a.fits) (hlen : xs.length < sizeLine)
    (B : Nat) (hB : ∀ b ∈ fp, b < B) :
    ∀ (k i : Nat) (s : Shared) (ps : List UInt64) (T S : Addr) (c1 c2 : Nat), xs.length - i = k → i ≤ xs.length → St i s → ps.length ≤ i → B ≤ T → B ≤ S → s.heap.get? T = some (bitsTup ps c1) → s.heap.get? S = some (bitsTup [Float64.zero false, Float64.zero false] c2) →
    fsumOk ps ((xs.drop i).map Nm.real) →
    (∀ s' t, Moved wr G s s' → R (.ok (.ret (.float (Float64.fsumEnd (((xs.drop i).map Nm.real).foldl fsumStep ps)) t))) s') → codeAny (model prog w) A (.builtin "math.fsum.loop" ⟨[.ref I, .ref T, .ref S], []⟩) R s := by
  intro k
  induction k with
  | zero =>
    intro i s ps T S c1 c2 hk hi hst hps hT hS gT gS hok hR
    have hin : i = xs.length := by omega
    subst hin
    rw [List.drop_length] at hR
    refine codeAny_builtin entry_fsum_loop ?_
    rw [Around.under_plainId plain_fsum_loop _]
    show wpAny _ A.in1 ((seqItems? (.ref T) >>= fun o => pure ((o.getD #[]).toList.map fun v => match v with | Value.int i _ => i.toNat.toUInt64 | _ => 0)) >>= _) _ _ s
    refine wpAny_bind (wpAny_bind (wpAny_seqItems gT rfl (wpAny_pure ?_)))
    rw [unpack_map]
    show wpAny _ A.in1 ((seqItems? (.ref S) >>= fun o => pure ((o.getD #[]).toList.map fun v => match v with | Value.int i _ => i.toNat.toUInt64 | _ => 0)) >>= _) _ _ s
    refine wpAny_bind (wpAny_bind (wpAny_seqItems gS rfl (wpAny_pure ?_)))
    rw [unpack_map]
    show wpAny _ A.in1 (pyNext (.ref I) >>= _) _ _ s
    refine wpAny_bind (W.done s _ _ hst fun s' hm => ?_)
    show wpAny _ A.in1 (if (!Float64.isZero (Float64.zero false)) = true then _ else _) _ _ s'
    rw [if_neg (by decide +kernel)]
    show wpAny _ A.in1 (Builtin.Float.retFloat _) _ _ s'
    exact wpAny_bind (Flt.wp_mkFloat (wpAny_pure (hR _ _ ⟨hm.heap, hm.gens, hm.drawn, hm.os, Nat.le_succ_of_le hm.toks⟩)))
  | succ k ih =>
    intro i s ps T S c1 c2 hk hi hst hps hT hS gT gS hok hR
    have hlt : i < xs.length := by omega
    have wlt : ∀ b ∈ wr, b < B := fun b hb => hB b (W.sub b hb)
    refine codeAny_builtin entry_fsum_loop ?_
    rw [Around.under_plainId plain_fsum_loop _]
    show wpAny _ A.in1 ((seqItems? (.ref T) >>= fun o => pure ((o.getD #[]).toList.map fun v => match v with | Value.int i _ => i.toNat.toUInt64 | _ => 0)) >>= _) _ _ s
    refine wpAny_bind (wpAny_bind (wpAny_seqItems gT rfl (wpAny_pure ?_)))
    rw [unpack_map]
    show wpAny _ A.in1 ((seqItems? (.ref S) >>= fun o => pure ((o.getD #[]).toList.map fun v => match v with | Value.int i _ => i.toNat.toUInt64 | _ => 0)) >>= _) _ _ s
    refine wpAny_bind (wpAny_bind (wpAny_seqItems gS rfl (wpAny_pure ?_)))
    rw [unpack_map]
    show wpAny _ A.in1 (pyNext (.ref I) >>= _) _ _ s
    refine wpAny_bind (W.item i s _ _ hlt hst fun v s' hP hst' hm => ?_)
    obtain ⟨a, ha, hv⟩ := hval i v hP
    have hdrop : xs.drop i = a :: xs.drop (i + 1) := by
      rw [List.drop_eq_getElem_cons hlt]; congr 1; exact Option.some.inj ((List.getElem?_eq_getElem hlt).symm.trans ha)
    rw [hdrop] at hok hR
    simp only [List.map_cons, List.foldl_cons, fsumOk] at hok hR
    have hmem : a ∈ xs := List.mem_of_getElem? ha
    refine wpAny_bind (wpAny_holding (realArg_nm hA hv (hfit a hmem) fun tk htk => ?_))
    show wpAny _ A.in1 (if Float64.isFinite (Float64.fsumAdd ps a.real).2 = true then _ else _) _ _ _
    rw [if_pos hok.1]
    show wpAny _ A.in1 (newTuple ((fsumStep ps a.real).map fun x => rawInt x.toNat) >>= _) _ _ _
    have hl2 := fsumStep_len ps a.real
    refine wpAny_bind (packBits_wp (by omega) ?_)
    refine wpAny_pure ⟨plainId_quiet plain_fsum_loop _, ?_⟩
    have hT' : ¬ T ∈ wr := fun q => Nat.lt_irrefl _ (Nat.lt_of_lt_of_le (wlt _ q) hT)
    have hS' : ¬ S ∈ wr := fun q => Nat.lt_irrefl _ (Nat.lt_of_lt_of_le (wlt _ q) hS)
    have gS' := hm.heap S _ hS' gS
    have hBs : B ≤ s'.heap.objs.size := Nat.le_trans hS (Nat.le_of_lt (Heap.lt_size gS'))
    refine ih (i + 1) _ (fsumStep ps a.real) s'.heap.objs.size S 0 c2 (by omega) (by omega) (W.frame _ s' _ tk hst' htk fun b _ o e => Heap.get?_push_of_some _ e) (by omega) hBs hS (Heap.get?_push_size _ rfl) (Heap.get?_push_of_some _ gS') hok.2 fun s'' t hm2 => hR s'' t ?_
    exact Moved.trans W.gtrans (hm.then_heap htk fun b o _ e => Heap.get?_push_of_some _ e) hm2

theorem call_fsum {xs : List Nm} {x : Value} {E : Value → Shared → Prop} {s : Shared} {Q : Value → Shared → Prop} (hA : A.handled = none) (hfit : ∀ a ∈ xs, a.fits) (hlen : xs.length < sizeLine) (hok : fsumOk [] (xs.map Nm.real))
    (h : wpAny (model prog w) A.in1 (pyIter x) (fun it s₂ => ∃ I fp wr G P St, it = .ref I ∧ WalksS prog w A.in1 I fp wr G xs.length P St ∧ St 0 s₂ ∧ (∀ b ∈ fp, b < s₂.heap.objs.size) ∧ (∀ i v, P i v → ∃ a, xs[i]? = some a ∧ NmIs v a) ∧
      ∀ s' t, Moved wr G s₂ s' → Q (.float (fsumP (xs.map Nm.real)) t) s') E s) :
    wpAny (model prog w) A (call (.builtin "math.fsum") [x]) Q E s := by
  refine call_function_tree kind_fsum plain_fsum entry_fsum (args_fsum _) ?_
  unfold Builtin.«math.fsum»
  refine wpAny_bind (m := Builtin.Math.mathOne "fsum" _) (wpAny_pure ?_)
  refine wpAny_bind (wpAny_mono h (fun it s₂ h₂ => ?_) fun _ _ e => e)
  obtain ⟨I, fp, wr, G, P, St, rfl, W, hst, hfp, hval, hQ⟩ := h₂
  refine wpAny_bind (packBits_wp (xs := []) (by simp) ?_)
  refine wpAny_bind (packBits_wp (xs := [Float64.zero false, Float64.zero false]) (by show 2 ≤ sizeLine; decide) ?_)
  refine wpAny_pure ⟨plainId_quiet plain_fsum_loop _, ?_⟩
  refine codeAny_fsum_loop hA W hval hfit hlen s₂.heap.objs.size hfp xs.length 0 _ [] s₂.heap.objs.size (s₂.heap.push (bitsTup [] 0)).objs.size 0 0 (by omega) (by omega)
    (W.frame 0 s₂ _ s₂.toks hst (Nat.le_refl _) fun b _ o e => Heap.get?_push_of_some _ (Heap.get?_push_of_some _ e)) (Nat.le_refl _) (Nat.le_refl _) (by rw [Heap.size_push]; omega)
    (Heap.get?_push_of_some _ (Heap.get?_push_size _ rfl)) (Heap.get?_push_size _ rfl) (by simpa using hok) fun s' t hm => ?_
  refine hQ s' t ⟨fun b o hb e => hm.heap b o hb (Heap.get?_push_of_some _ (Heap.get?_push_of_some _ e)), hm.gens, hm.drawn, hm.os, hm.toks⟩
end
end Mine
end
theorem Mine.anewSp : True := by
  w_top off
  exact trivial
section
open PySem PySem.W PySem.Calls PyProof.Rows
set_option Elab.async false
set_option maxRecDepth 100000
namespace Mine

def dot : List Int → List Int → Int
  | a :: xs, b :: ys => a * b + dot xs ys
  | _, _ => 0
def dotN (xs ys : List Int) (i : Nat) : Int := dot (xs.take i) (ys.take i)
theorem dot_snoc : ∀ (xs ys : List Int) (a b : Int), xs.length = ys.length → dot (xs ++ [a]) (ys ++ [b]) = dot xs ys + a * b
  | [], [], a, b, _ => by simp [dot]
  | x :: xs, y :: ys, a, b, h => by
    simp only [List.cons_append, dot]
    rw [dot_snoc xs ys a b (by simpa using h)]; omega
  | [], _ :: _, _, _, h => by simp at h
  | _ :: _, [], _, _, h => by simp at h
theorem dotN_succ {xs ys : List Int} {i : Nat} {a b : Int} (ha : xs[i]? = some a) (hb : ys[i]? = some b) : dotN xs ys (i + 1) = dotN xs ys i + a * b := by
  unfold dotN
  have h1 : i < xs.length := (List.getElem?_eq_some_iff.mp ha).1
  have h2 : i < ys.length := (List.getElem?_eq_some_iff.mp hb).1
  rw [List.take_add_one, List.take_add_one, ha, hb]
  exact dot_snoc _ _ _ _ (by simp; omega)
theorem dotN_all {xs ys : List Int} (h : xs.length = ys.length) : dotN xs ys xs.length = dot xs ys := by
  unfold dotN
  rw [List.take_length, h, List.take_length]

theorem kind_sp : builtinKind "math.sumprod" = none := by decide +kernel
theorem plain_sp : plainId "math.sumprod" = true := by decide +kernel
theorem entry_sp : entryFor table "math.sumprod" = some Builtin.«math.sumprod» := entryFor_of_fast (by kernel_rfl)
theorem args_sp (a b : Value) : argsOk "math.sumprod" ⟨[a, b], []⟩ := by unfold argsOk; kernel_rfl
theorem plain_sp_loop : plainId "math.sumprod.loop" = true := by decide +kernel
theorem entry_sp_loop : entryFor table "math.sumprod.loop" = some Builtin.«math.sumprod.loop» := entryFor_of_fast (by kernel_rfl)

abbrev triTup (t : UInt64 × UInt64 × UInt64) (n : Nat) : Obj := { cls := .type "tuple", data := .seq #[rawInt t.1.toNat, rawInt t.2.1.toNat, rawInt t.2.2.toNat] n }

/-- two iterators side by side -/
structure Two (prog : Program) (w : World) (A : Around) (I J : Addr) (fp : List Addr) (wr : List Addr) (G : Array GenState → Array GenState → Prop) (n1 n2 : Nat) (P1 P2 : Nat → Value → Prop) (St : Nat → Nat → Shared → Prop) : Prop where
  sub : ∀ b ∈ wr, b ∈ fp
  grefl : ∀ a, G a a
  gtrans : ∀ a b c, G a b → G b c → G a c
  frame : ∀ i j (s : Shared) h' tk, St i j s → s.toks ≤ tk → (∀ b ∈ fp, ∀ o, s.heap.get? b = some o → h'.get? b = some o) → St i j { s with heap := h', toks := tk }
  both : ∀ i (s : Shared) (Q : Option Value → Shared → Prop) (E : Value → Shared → Prop), i < n1 → St i i s →
    (∀ v s', P1 i v → Moved wr G s s' → (∀ (Q' : Option Value → Shared → Prop) (E' : Value → Shared → Prop),
      (i < n2 → ∀ u s'', P2 i u → St (i + 1) (i + 1) s'' → Moved wr G s s'' → Q' (some u) s'') → (i = n2 → ∀ s'', Moved wr G s s'' → Q' none s'') → i ≤ n2 → wpAny (model prog w) A (pyNext (.ref J)) Q' E' s') → Q (some v) s') → wpAny (model prog w) A (pyNext (.ref I)) Q E s
  last : ∀ (s : Shared) (Q : Option Value → Shared → Prop) (E : Value → Shared → Prop), St n1 n1 s →
    (∀ s', Moved wr G s s' → (∀ (Q' : Option Value → Shared → Prop) (E' : Value → Shared → Prop),
      (n1 < n2 → ∀ u s'', P2 n1 u → Moved wr G s s'' → Q' (some u) s'') → (n1 = n2 → ∀ s'', Moved wr G s s'' → Q' none s'') → n1 ≤ n2 → wpAny (model prog w) A (pyNext (.ref J)) Q' E' s') → Q none s') → wpAny (model prog w) A (pyNext (.ref I)) Q E s

/-- the error that a call hands on -/
def Raised (wr : List Addr) (G : Array GenState → Array GenState → Prop) (cls : String) (E : Value → Shared → Prop) (s : Shared) : Prop :=
  ∀ s' h' tk e, Moved wr G s s' → Heap.NewExc s'.heap h' e cls → E (.ref e) { s' with heap := h', toks := tk }

inductive SpAt (acc : Int) (i : Nat) : Value → Bool → Int → Bool → Bool → Prop
  | spI (t : Tok) : SpAt acc i (.int 0 t) true acc (decide (0 < i)) true
  | spP (t : Tok) : SpAt acc i (.int acc t) false 0 false false

theorem ite_yes {α : Type} {M : Model} {A : Around} {E : Value → Shared → Prop} {s : Shared} {c : Prop} [Decidable c] {a b : Sem α} {Q : α → Shared → Prop} (hc : c) (h : wpAny M A a Q E s) : wpAny M A (if c then a else b) Q E s := by rw [if_pos hc]; exact h
theorem ite_no {α : Type} {M : Model} {A : Around} {E : Value → Shared → Prop} {s : Shared} {c : Prop} [Decidable c] {a b : Sem α} {Q : α → Shared → Prop} (hc : ¬ c) (h : wpAny M A b Q E s) : wpAny M A (if c then a else b) Q E s := by rw [if_neg hc]; exact h

section
variable {prog : Program} {w : World} {A : Around} {R : Result → Shared → Prop} {I J : Addr} {fp wr : List Addr} {G : Array GenState → Array GenState → Prop} {P1 P2 : Nat → Value → Prop} {St : Nat → Nat → Shared → Prop}

theorem toks_then {s' : Shared} {s : Shared} (x : Moved wr G s s') {tk : Nat} (h : s'.toks ≤ tk) : Moved wr G s { s' with toks := tk } :=
  ⟨x.heap, x.gens, x.drawn, x.os, Nat.le_trans x.toks h⟩

theorem codeAny_sp_ints {xs ys : List Int} (hA : A.handled = none) (W : Two prog w A.in1 I J fp wr G xs.length ys.length P1 P2 St) (hv1 : ∀ i v, P1 i v → ∃ a t, xs[i]? = some a ∧ v = .int a t) (hv2 : ∀ i v, P2 i v → ∃ a t, ys[i]? = some a ∧ v = .int a t)
    (hmul : ∀ (i : Nat) a b, xs[i]? = some a → ys[i]? = some b → IntMulOk a b) (B : Nat) (hB : ∀ b ∈ fp, b < B) :
    ∀ (k i : Nat) (s : Shared) (tot : Value) (io : Bool) (sm : Int) (iu fo : Bool) (T : Addr) (tri : UInt64 × UInt64 × UInt64) (c : Nat), xs.length - i = k → i ≤ xs.length → i ≤ ys.length → St i i s → SpAt (dotN xs ys i) i tot io sm iu fo →
    B ≤ T → s.heap.get? T = some (triTup tri c) →
    (xs.length = ys.length → ∀ s' t, Moved wr G s s' → R (.ok (.ret (.int (dot xs ys) t))) s') → (xs.length ≠ ys.length → Raised wr G "ValueError" (fun e s' => R (.error e) s') s) →
    codeAny (model prog w) A (.builtin "math.sumprod.loop" ⟨[.ref I, .ref J, tot, .bool io, rawInt sm, .bool iu, .bool fo, .ref T, .bool false], []⟩) R s := by
  have wlt : ∀ b ∈ wr, b < B := fun b hb => hB b (W.sub b hb)
  intro k
  induction k with
  | zero =>
    intro i s tot io sm iu fo T tri c hk hi hj hst hat hT gT hR hE
    have hin : i = xs.length := by omega
    subst hin
    refine codeAny_builtin entry_sp_loop ?_
    rw [Around.under_plainId plain_sp_loop _]
    unfold Builtin.«math.sumprod.loop»
    dsimp only [rawInt]
    refine wpAny_bind (wpAny_seqItems gT rfl ?_)
    dsimp only [Option.getD, rawInt]
    refine wpAny_bind (W.last s _ _ hst fun s' hm hq => ?_)
    refine wpAny_bind (wpAny_holding (hq _ _ (fun hlt u s'' hu hm' => ?_) (fun he s'' hm' => ?_) hj))
    · refine ite_yes rfl ?_
      refine wpAny_bind (wpAny_rule ?_)
      refine wpAny_bind (wpAny_raiseErrorWords plainExc_ValueError hA fun h' tk e hx => ?_)
      exact hE (by omega) s'' h' tk e hm' hx
    · refine ite_no (by decide) ?_
      dsimp only
      rw [dotN_all he] at hat
      cases hat with
      | spI t =>
        simp only [if_true]
        refine wpAny_bind (wpAny_rule ?_)
        by_cases h0 : 0 < xs.length
        · simp only [h0, decide_true, if_true]
          refine wpAny_bind (wpAny_mkInt (wpAny_bind (wpAny_holding (wpAny_add_int ?_))))
          refine wpAny_bind (wpAny_rule ?_)
          simp only [Bool.false_eq_true, if_false]
          rw [Int.zero_add]
          exact wpAny_pure (hR he _ _ (toks_then hm' (by show s''.toks ≤ s''.toks + 1 + 1; omega)))
        · have hx0 : xs = [] := List.eq_nil_of_length_eq_zero (by omega)
          subst hx0
          simp only [List.length_nil, Nat.lt_irrefl, decide_false, Bool.false_eq_true, if_false]
          refine wpAny_bind (wpAny_rule ?_)
          exact wpAny_pure (hR he _ _ hm')
      | spP t =>
        simp only [Bool.false_eq_true, if_false]
        exact wpAny_pure (hR he _ _ hm')
  | succ k ih =>
    intro i s tot io sm iu fo T tri c hk hi hj hst hat hT gT hR hE
    have hlt : i < xs.length := by omega
    refine codeAny_builtin entry_sp_loop ?_
    rw [Around.under_plainId plain_sp_loop _]
    unfold Builtin.«math.sumprod.loop»
    dsimp only [rawInt]
    refine wpAny_bind (wpAny_seqItems gT rfl ?_)
    dsimp only [Option.getD, rawInt]
    refine wpAny_bind (W.both i s _ _ hlt hst fun v s' hp hm hq => ?_)
    refine wpAny_bind (wpAny_holding (hq _ _ (fun hlt2 u s'' hu hst' hm' => ?_) (fun he s'' hm' => ?_) hj))
    · obtain ⟨a, ta, ha, rfl⟩ := hv1 i v hp
      obtain ⟨b, tb, hb, rfl⟩ := hv2 i u hu
      have hT' : ¬ T ∈ wr := fun q => Nat.lt_irrefl _ (Nat.lt_of_lt_of_le (wlt _ q) hT)
      have gT' := hm'.heap T _ hT' gT
      have hsum := dotN_succ ha hb
      have fin : ∀ (tk : Nat) (tot' : Value) (io' : Bool) (sm' : Int) (iu' fo' : Bool), s''.toks ≤ tk → SpAt (dotN xs ys (i + 1)) (i + 1) tot' io' sm' iu' fo' →
          codeAny (model prog w) A (.builtin "math.sumprod.loop" ⟨[.ref I, .ref J, tot', .bool io', rawInt sm', .bool iu', .bool fo', .ref T, .bool false], []⟩) R { s'' with toks := tk } := by
        intro tk tot' io' sm' iu' fo' htk hat'
        refine ih (i + 1) _ tot' io' sm' iu' fo' T tri c (by omega) (by omega) (by omega) (W.frame _ _ s'' _ tk hst' htk fun _ _ _ e => e) hat' hT gT' (fun h3 s3 t hm3 => hR h3 s3 t ?_) (fun h3 s3 h' tk3 e hm3 hx => hE h3 s3 h' tk3 e ?_ hx)
        · exact Moved.trans W.gtrans (toks_then hm' htk) hm3
        · exact Moved.trans W.gtrans (toks_then hm' htk) hm3
      refine ite_no (by simp) ?_
      dsimp only
      cases hat with
      | spI t =>
        simp only [if_true]
        refine wpAny_ite ?_
        split
        · refine wpAny_pure ⟨plainId_quiet plain_sp_loop _, ?_⟩
          have := fin s''.toks (.int 0 t) true (dotN xs ys i + a * b) true true (Nat.le_refl _) (by
            have q := SpAt.spI (acc := dotN xs ys (i + 1)) (i := i + 1) t
            rw [hsum] at q ⊢
            simpa using q)
          exact this
        · refine wpAny_bind (wpAny_rule ?_)
          by_cases h0 : 0 < i
          · simp only [h0, decide_true, if_true]
            refine wpAny_bind (wpAny_mkInt (wpAny_bind (wpAny_holding (wpAny_add_int ?_))))
            simp only [Bool.or_self, Bool.false_eq_true, if_false]
            refine wpAny_bind (wpAny_rule ?_)
            refine wpAny_bind (wpAny_holding (PyProof.Rows.mul_int ?_ (hmul i a b ha hb)))
            refine wpAny_bind (wpAny_holding (wpAny_add_int ?_))
            refine wpAny_pure ⟨plainId_quiet plain_sp_loop _, ?_⟩
            rw [Int.zero_add, ← hsum]
            exact fin _ _ false 0 false false (by show s''.toks ≤ s''.toks + 1 + 1 + 1 + 1; omega) (.spP _)
          · have hi0 : i = 0 := by omega
            simp only [h0, decide_false, Bool.false_eq_true, if_false]
            simp only [Bool.or_self, Bool.false_eq_true, if_false]
            refine wpAny_bind (wpAny_rule ?_)
            refine wpAny_bind (wpAny_holding (PyProof.Rows.mul_int ?_ (hmul i a b ha hb)))
            refine wpAny_bind (wpAny_holding (wpAny_add_int ?_))
            refine wpAny_pure ⟨plainId_quiet plain_sp_loop _, ?_⟩
            have e0 : dotN xs ys i = 0 := by rw [hi0]; rfl
            rw [show (0 : Int) + a * b = dotN xs ys (i + 1) by rw [hsum, e0]]
            exact fin _ _ false 0 false false (by show s''.toks ≤ s''.toks + 1 + 1; omega) (.spP _)
      | spP t =>
        simp only [Bool.false_eq_true, if_false]
        refine wpAny_bind (wpAny_holding (PyProof.Rows.mul_int ?_ (hmul i a b ha hb)))
        refine wpAny_bind (wpAny_holding (wpAny_add_int ?_))
        refine wpAny_pure ⟨plainId_quiet plain_sp_loop _, ?_⟩
        rw [← hsum]
        exact fin _ _ false 0 false false (by show s''.toks ≤ s''.toks + 1 + 1; omega) (.spP _)
    · refine ite_yes rfl ?_
      refine wpAny_bind (wpAny_rule ?_)
      refine wpAny_bind (wpAny_raiseErrorWords plainExc_ValueError hA fun h' tk e hx => ?_)
      exact hE (by omega) s'' h' tk e hm' hx

/-- the threefold sum of floats -/
def triFold (t : UInt64 × UInt64 × UInt64) : List (UInt64 × UInt64) → UInt64 × UInt64 × UInt64
  | [] => t
  | (x, y) :: r => triFold (Builtin.Math.tlFma x y t) r
def triOk (t : UInt64 × UInt64 × UInt64) : List (UInt64 × UInt64) → Prop
  | [] => True
  | (x, y) :: r => Float64.isFinite (Builtin.Math.tlFma x y t).1 = true ∧ triOk (Builtin.Math.tlFma x y t) r
def zero3 : UInt64 × UInt64 × UInt64 := (Float64.zero false, Float64.zero false, Float64.zero false)
/-- what math.sumprod gives of numbers, in each pair of which is a float -/
def sprodF (ps : List (UInt64 × UInt64)) : Nm := match ps with
  | [] => .i 0
  | ps => .f (Float64.add (Float64.ofInt 0) (Builtin.Math.tlToFloat (triFold zero3 ps)))

theorem fits_zero : ¬ Float64.isInf (Float64.ofInt 0) = true := by decide +kernel
theorem not_inf_of_fits {n : Int} (h : (Nm.i n).fits) : ¬ Float64.isInf (Float64.ofInt n) = true := Flt.fin_of_fits h

theorem codeAny_sp_flts {xs ys : List Nm} (hA : A.handled = none) (hlen : xs.length = ys.length) (W : Two prog w A.in1 I J fp wr G xs.length ys.length P1 P2 St) (hv1 : ∀ i v, P1 i v → ∃ a, xs[i]? = some a ∧ NmIs v a) (hv2 : ∀ i v, P2 i v → ∃ a, ys[i]? = some a ∧ NmIs v a)
    (hf1 : ∀ a ∈ xs, a.fits) (hf2 : ∀ a ∈ ys, a.fits) (hone : ∀ (i : Nat) a b, xs[i]? = some a → ys[i]? = some b → (a.isf || b.isf) = true) (B : Nat) (hB : ∀ b ∈ fp, b < B) :
    ∀ (k i : Nat) (s : Shared) (io : Bool) (fu : Bool) (T : Addr) (tri : UInt64 × UInt64 × UInt64) (c : Nat) (t0 : Tok), xs.length - i = k → i ≤ xs.length → St i i s → (i = 0 → fu = false) → (0 < i → fu = true) →
    B ≤ T → s.heap.get? T = some (triTup tri c) → triOk tri (((xs.drop i).map Nm.real).zip ((ys.drop i).map Nm.real)) →
    (∀ s' v, NmIs v (if xs.length = 0 then .i 0 else .f (Float64.add (Float64.ofInt 0) (Builtin.Math.tlToFloat (triFold tri (((xs.drop i).map Nm.real).zip ((ys.drop i).map Nm.real)))))) → Moved wr G s s' → R (.ok (.ret v)) s') →
    codeAny (model prog w) A (.builtin "math.sumprod.loop" ⟨[.ref I, .ref J, .int 0 t0, .bool io, rawInt 0, .bool false, .bool true, .ref T, .bool fu], []⟩) R s := by
  have wlt : ∀ b ∈ wr, b < B := fun b hb => hB b (W.sub b hb)
  have back : ∀ x : UInt64, ((x.toNat : Int)).toNat.toUInt64 = x := fun x => by simp
  intro k
  induction k with
  | zero =>
    intro i s io fu T tri c t0 hk hi hst hu0 hu1 hT gT hok hR
    have hin : i = xs.length := by omega
    subst hin
    rw [List.drop_length] at hR
    refine codeAny_builtin entry_sp_loop ?_
    rw [Around.under_plainId plain_sp_loop _]
    unfold Builtin.«math.sumprod.loop»
    dsimp only [rawInt]
    refine wpAny_bind (wpAny_seqItems gT rfl ?_)
    dsimp only [Option.getD, rawInt]
    simp only [back]
    refine wpAny_bind (W.last s _ _ hst fun s' hm hq => ?_)
    refine wpAny_bind (wpAny_holding (hq _ _ (fun hlt u s'' hu hm' => absurd hlt (by omega)) (fun he s'' hm' => ?_) (by omega)))
    refine ite_no (by decide) ?_
    dsimp only
    have rest : wpAny (model prog w) A.in1 (rule "math.sumprod.leaves-floats" >>= fun _ => if fu = true then (mkFloat (Builtin.Math.tlToFloat tri) >>= fun z => holding (Value.int 0 t0 :: ([] : List Value)) (binaryOp Operator.Add (.int 0 t0) z) >>= fun total => ret total) else ret (.int 0 t0))
        (fun fin s' => match fin with | .done f => R (.ok f) s' | .again c' => c'.quiet = true ∧ codeAny (model prog w) A c' R s') (fun e s' => R (.error e) s') s'' := by
      refine wpAny_bind (wpAny_rule ?_)
      by_cases h0 : 0 < xs.length
      · rw [hu1 h0]
        refine ite_yes rfl ?_
        refine wpAny_bind (Flt.wp_mkFloat (wpAny_bind (wpAny_holding (AutoFloatOps.add_if_1 fits_zero ?_))))
        refine wpAny_pure (hR _ _ ?_ (toks_then hm' (tk := s''.toks + 1 + 1) (by omega)))
        rw [if_neg (by omega)]
        exact ⟨_, rfl⟩
      · rw [hu0 (by omega)]
        refine ite_no (by decide) ?_
        refine wpAny_pure (hR _ _ ?_ hm')
        rw [if_pos (by omega)]
        exact ⟨_, rfl⟩
    cases io with
    | true =>
      refine ite_yes rfl ?_
      refine wpAny_bind (wpAny_rule ?_)
      exact rest
    | false => exact rest
  | succ k ih =>
    intro i s io fu T tri c t0 hk hi hst hu0 hu1 hT gT hok hR
    have hlt : i < xs.length := by omega
    have hltj : i < ys.length := by omega
    refine codeAny_builtin entry_sp_loop ?_
    rw [Around.under_plainId plain_sp_loop _]
    unfold Builtin.«math.sumprod.loop»
    dsimp only [rawInt]
    refine wpAny_bind (wpAny_seqItems gT rfl ?_)
    dsimp only [Option.getD, rawInt]
    simp only [back]
    refine wpAny_bind (W.both i s _ _ hlt hst fun v s' hp hm hq => ?_)
    refine wpAny_bind (wpAny_holding (hq _ _ (fun hlt2 u s'' hu hst' hm' => ?_) (fun he s'' hm' => absurd he (by omega)) (by omega)))
    obtain ⟨a, ha, hva⟩ := hv1 i v hp
    obtain ⟨b, hb, hvb⟩ := hv2 i u hu
    have hT' : ¬ T ∈ wr := fun q => Nat.lt_irrefl _ (Nat.lt_of_lt_of_le (wlt _ q) hT)
    have gT' := hm'.heap T _ hT' gT
    have d1 : xs.drop i = a :: xs.drop (i + 1) := by
      rw [List.drop_eq_getElem_cons hlt]; congr 1; exact Option.some.inj ((List.getElem?_eq_getElem hlt).symm.trans ha)
    have d2 : ys.drop i = b :: ys.drop (i + 1) := by
      rw [List.drop_eq_getElem_cons hltj]; congr 1; exact Option.some.inj ((List.getElem?_eq_getElem hltj).symm.trans hb)
    rw [d1, d2] at hok hR
    simp only [List.map_cons, List.zip_cons_cons, triOk, triFold] at hok hR
    have fa := hf1 a (List.mem_of_getElem? ha)
    have fb := hf2 b (List.mem_of_getElem? hb)
    have hab := hone i a b ha hb
    refine ite_no (by simp) ?_
    dsimp only
    have turn : wpAny (model prog w) A.in1 (newTuple [rawInt (Builtin.Math.tlFma a.real b.real tri).1.toNat, rawInt (Builtin.Math.tlFma a.real b.real tri).2.1.toNat, rawInt (Builtin.Math.tlFma a.real b.real tri).2.2.toNat] >>= fun t => again (.builtin "math.sumprod.loop" ⟨[.ref I, .ref J, .int 0 t0, .bool false, .int 0 0, .bool false, .bool true, t, .bool true], []⟩))
        (fun fin s' => match fin with | .done f => R (.ok f) s' | .again c' => c'.quiet = true ∧ codeAny (model prog w) A c' R s') (fun e s' => R (.error e) s') s'' := by
      refine wpAny_bind (wpAny_newObj_type (wpAny_pure ⟨plainId_quiet plain_sp_loop _, ?_⟩) (by show 3 ≤ sizeLine; decide))
      have hBs : B ≤ s''.heap.objs.size := Nat.le_trans hT (Nat.le_of_lt (Heap.lt_size gT'))
      refine ih (i + 1) _ false true s''.heap.objs.size _ 0 t0 (by omega) (by omega) (W.frame _ _ s'' _ s''.toks hst' (Nat.le_refl _) fun b _ o e => Heap.get?_push_of_some _ e) (by omega) (fun _ => rfl) hBs (Heap.get?_push_size _ rfl) hok.2 fun s3 v3 hv3 hm3 => hR s3 v3 hv3 ?_
      exact Moved.trans W.gtrans (hm'.then_heap (Nat.le_refl _) fun b o _ e => Heap.get?_push_of_some _ e) hm3
    have goes : wpAny (model prog w) A.in1 (if Float64.isFinite (Builtin.Math.tlFma a.real b.real tri).1 = true then (newTuple [rawInt (Builtin.Math.tlFma a.real b.real tri).1.toNat, rawInt (Builtin.Math.tlFma a.real b.real tri).2.1.toNat, rawInt (Builtin.Math.tlFma a.real b.real tri).2.2.toNat] >>= fun t => again (.builtin "math.sumprod.loop" ⟨[.ref I, .ref J, .int 0 t0, .bool false, .int 0 0, .bool false, .bool true, t, .bool true], []⟩)) else unsupported "x")
        (fun fin s' => match fin with | .done f => R (.ok f) s' | .again c' => c'.quiet = true ∧ codeAny (model prog w) A c' R s') (fun e s' => R (.error e) s') s'' := ite_yes hok.1 turn
    cases a with
    | i n =>
      cases b with
      | i m => cases hab
      | f y =>
        obtain ⟨t1, rfl⟩ := hva
        obtain ⟨t2, rfl⟩ := hvb
        cases io with
        | true =>
          refine ite_yes rfl ?_
          refine wpAny_bind (wpAny_rule ?_)
          simp only [Bool.false_eq_true, if_false, if_true, Bool.or_true, if_neg (not_inf_of_fits fa)]
          exact ite_yes hok.1 turn
        | false =>
          simp only [Bool.false_eq_true, if_false, if_true, Bool.or_true, if_neg (not_inf_of_fits fa)]
          exact ite_yes hok.1 turn
    | f x =>
      cases b with
      | i m =>
        obtain ⟨t1, rfl⟩ := hva
        obtain ⟨t2, rfl⟩ := hvb
        cases io with
        | true =>
          refine ite_yes rfl ?_
          refine wpAny_bind (wpAny_rule ?_)
          simp only [Bool.false_eq_true, if_false, if_true, Bool.true_or, if_neg (not_inf_of_fits fb)]
          exact ite_yes hok.1 turn
        | false =>
          simp only [Bool.false_eq_true, if_false, if_true, Bool.true_or, if_neg (not_inf_of_fits fb)]
          exact ite_yes hok.1 turn
      | f y =>
        obtain ⟨t1, rfl⟩ := hva
        obtain ⟨t2, rfl⟩ := hvb
        cases io with
        | true =>
          refine ite_yes rfl ?_
          refine wpAny_bind (wpAny_rule ?_)
          simp only [Bool.false_eq_true, if_false, if_true, Bool.or_true]
          exact ite_yes hok.1 turn
        | false =>
          simp only [Bool.false_eq_true, if_false, if_true, Bool.or_true]
          exact ite_yes hok.1 turn
end
end Mine
end
theorem Mine.anewSp2 : True := by
  w_top off
  exact trivial
section
open PySem PySem.W PySem.Calls PyProof.Rows
set_option Elab.async false
set_option maxRecDepth 100000
namespace Mine
section
variable {prog : Program} {w : World} {A : Around} {E : Value → Shared → Prop} {s : Shared}
/-- an answer's end of a call -/
abbrev RetQ (Q E : Value → Shared → Prop) : Result → Shared → Prop := fun r s' => match r with
  | .ok (.ret v) => Q v s'
  | .ok _ => False
  | .error e => E e s'

theorem call_sp_enter {p q : Value} {Q : Value → Shared → Prop} (h : wpAny (model prog w) A.in1 (pyIter p) (fun it s₁ => wpAny (model prog w) A.in1 (pyIter q) (fun jt s₂ =>
      codeAny (model prog w) A (.builtin "math.sumprod.loop" ⟨[it, jt, .int 0 s₂.toks, .bool true, rawInt 0, .bool false, .bool true, .ref s₂.heap.objs.size, .bool false], []⟩) (RetQ Q E) { s₂ with heap := s₂.heap.push (triTup zero3 0), toks := s₂.toks + 1 }) E s₁) E s) :
    wpAny (model prog w) A (call (.builtin "math.sumprod") [p, q]) Q E s := by
  refine call_function_tree kind_sp plain_sp entry_sp (args_sp _ _) ?_
  unfold Builtin.«math.sumprod»
  refine wpAny_bind (m := Builtin.Math.mathSome "sumprod" 2 2 _) (wpAny_of_eq (a := [p, q]) rfl ?_)
  dsimp only
  refine wpAny_bind (wpAny_mono h (fun it s₁ h₁ => ?_) fun _ _ e => e)
  refine wpAny_bind (wpAny_holding (wpAny_mono h₁ (fun jt s₂ h₂ => ?_) fun _ _ e => e))
  refine wpAny_bind (wpAny_mkInt ?_)
  refine wpAny_bind (wpAny_newObj_type ?_ (by show 3 ≤ sizeLine; decide))
  exact wpAny_pure ⟨plainId_quiet plain_sp_loop _, h₂⟩

theorem Two.of_walks {I J : Addr} {fp1 fp2 wr1 wr2 : List Addr} {n1 n2 : Nat} {P1 P2 : Nat → Value → Prop} {St1 St2 : Nat → Heap → Prop} (W1 : Walks prog w A I fp1 wr1 n1 P1 St1) (W2 : Walks prog w A J fp2 wr2 n2 P2 St2)
    (h12 : ∀ b ∈ wr1, b ∉ fp2) (h21 : ∀ b ∈ wr2, b ∉ fp1) :
    Two prog w A I J (fp1 ++ fp2) (wr1 ++ wr2) (fun a b => b = a) n1 n2 P1 P2 (fun i j s => St1 i s.heap ∧ St2 j s.heap) where
  sub := fun b hb => by
    rcases List.mem_append.mp hb with hb | hb
    · exact List.mem_append_left _ (W1.sub b hb)
    · exact List.mem_append_right _ (W2.sub b hb)
  grefl := fun _ => rfl
  gtrans := fun _ _ _ h1 h2 => h2.trans h1
  frame := fun i j s h' tk st _ hk => ⟨W1.frame i _ _ st.1 fun b hb => hk b (List.mem_append_left _ hb), W2.frame j _ _ st.2 fun b hb => hk b (List.mem_append_right _ hb)⟩
  both := fun i s Q E hi st hQ => wpAny_with_toks (Nat.le_refl s.toks) (W1.item i s _ _ hi st.1 fun v h' tk hP st1 hk htk => by
    have m1 : Moved (wr1 ++ wr2) (fun a b => b = a) s { s with heap := h', toks := tk } := ⟨fun b o hb e => hk b o (fun q => hb (List.mem_append_left _ q)) e, rfl, rfl, rfl, htk⟩
    have st2 : St2 i h' := W2.frame i _ _ st.2 fun b hb o e => hk b o (fun q => h12 b q hb) e
    refine hQ v _ hP m1 fun Q' E' g1 g2 hle => ?_
    rcases Nat.lt_or_ge i n2 with hlt | hge
    · refine wpAny_with_toks (Nat.le_refl tk) (W2.item i _ _ _ hlt st2 fun u h'' tk2 hu st2' hk2 htk2 => g1 hlt u _ hu ⟨W1.frame _ _ _ st1 fun b hb o e => hk2 b o (fun q => h21 b q hb) e, st2'⟩ (Moved.trans (fun _ _ _ h1 h2 => h2.trans h1) m1 ⟨fun b o hb e => hk2 b o (fun q => hb (List.mem_append_right _ q)) e, rfl, rfl, rfl, htk2⟩))
    · have he : i = n2 := Nat.le_antisymm hle hge
      subst he
      exact wpAny_with_toks (Nat.le_refl tk) (W2.done _ _ _ st2 fun h'' tk2 hk2 htk2 => g2 rfl _ (Moved.trans (fun _ _ _ h1 h2 => h2.trans h1) m1 ⟨fun b o hb e => hk2 b o (fun q => hb (List.mem_append_right _ q)) e, rfl, rfl, rfl, htk2⟩)))
  last := fun s Q E st hQ => wpAny_with_toks (Nat.le_refl s.toks) (W1.done s _ _ st.1 fun h' tk hk htk => by
    have m1 : Moved (wr1 ++ wr2) (fun a b => b = a) s { s with heap := h', toks := tk } := ⟨fun b o hb e => hk b o (fun q => hb (List.mem_append_left _ q)) e, rfl, rfl, rfl, htk⟩
    have st2 : St2 n1 h' := W2.frame n1 _ _ st.2 fun b hb o e => hk b o (fun q => h12 b q hb) e
    refine hQ _ m1 fun Q' E' g1 g2 hle => ?_
    rcases Nat.lt_or_ge n1 n2 with hlt | hge
    · exact wpAny_with_toks (Nat.le_refl tk) (W2.item n1 _ _ _ hlt st2 fun u h'' tk2 hu _ hk2 htk2 => g1 hlt u _ hu (Moved.trans (fun _ _ _ h1 h2 => h2.trans h1) m1 ⟨fun b o hb e => hk2 b o (fun q => hb (List.mem_append_right _ q)) e, rfl, rfl, rfl, htk2⟩))
    · have he : n1 = n2 := Nat.le_antisymm hle hge
      subst he
      exact wpAny_with_toks (Nat.le_refl tk) (W2.done _ _ _ st2 fun h'' tk2 hk2 htk2 => g2 rfl _ (Moved.trans (fun _ _ _ h1 h2 => h2.trans h1) m1 ⟨fun b o hb e => hk2 b o (fun q => hb (List.mem_append_right _ q)) e, rfl, rfl, rfl, htk2⟩)))
end
end Mine
end
theorem Mine.anewBs : True := by
  w_top off
  exact trivial
section
open PySem PySem.W PySem.Calls PyProof.Rows
set_option Elab.async false
set_option maxRecDepth 100000
namespace Mine

abbrev frs (envs : List Env) : List Addr := envs.filterMap (·.frame)

/-- what a call may have changed: slots of the callers' frames, the things named, nothing else that stood -/
structure Chg (fs mods : List Addr) (h h' : Heap) : Prop where
  keep : ∀ b o, h.get? b = some o → b ∉ mods → b ∉ fs → h'.get? b = some o
  slot : ∀ b o, h.get? b = some o → b ∉ mods → b ∈ fs → ∃ sl, h'.get? b = some { o with slots := sl }
theorem Chg.refl {fs mods : List Addr} {h : Heap} : Chg fs mods h h := ⟨fun _ _ e _ _ => e, fun _ o e _ _ => ⟨o.slots, e⟩⟩
theorem Chg.up {fs mods : List Addr} {h h' : Heap} (x : Chg fs mods h h') {b : Addr} {o : Obj} (e : h.get? b = some o) (hm : b ∉ mods) : ∃ sl, h'.get? b = some { o with slots := sl } := by
  by_cases q : b ∈ fs
  · exact x.slot b o e hm q
  · exact ⟨o.slots, x.keep b o e hm q⟩
theorem Chg.trans {fs mods : List Addr} {h h₁ h₂ : Heap} (x : Chg fs mods h h₁) (y : Chg fs mods h₁ h₂) : Chg fs mods h h₂ :=
  ⟨fun b o e m f => y.keep b o (x.keep b o e m f) m f, fun b o e m f => by
    obtain ⟨s1, e1⟩ := x.slot b o e m f
    obtain ⟨s2, e2⟩ := y.slot b _ e1 m f
    exact ⟨s2, e2⟩⟩
theorem Chg.of_keeps {fs mods : List Addr} {h h' : Heap} (k : ∀ b o, h.get? b = some o → h'.get? b = some o) : Chg fs mods h h' :=
  ⟨fun b o e _ _ => k b o e, fun b o e _ _ => ⟨o.slots, k b o e⟩⟩
theorem Chg.of_keeps_but {fs mods : List Addr} {h h' : Heap} (k : ∀ b o, h.get? b = some o → b ∉ mods → h'.get? b = some o) : Chg fs mods h h' :=
  ⟨fun b o e m _ => k b o e m, fun b o e m _ => ⟨o.slots, k b o e m⟩⟩
theorem Chg.mono {fs fs' mods mods' : List Addr} {h h' : Heap} (x : Chg fs mods h h') (hf : ∀ b ∈ fs, b ∈ fs') (hm : ∀ b ∈ mods, b ∈ mods') : Chg fs' mods' h h' :=
  ⟨fun b o e m f => x.keep b o e (fun q => m (hm b q)) (fun q => f (hf b q)), fun b o e m _ => x.up e fun q => m (hm b q)⟩

theorem fresh_above {B h : Heap} {L : Addr} {g : Heap} {m : Str → Option Value} (st : B.StaysIn g) (F : Fr g L h m) : B.get? L = none := by
  cases hq : B.get? L with
  | none => rfl
  | some o => exact absurd (Nat.lt_of_lt_of_le (Heap.lt_size (st L o hq)) F.above) (Nat.lt_irrefl _)
theorem self_none {g h : Heap} {L : Addr} {m : Str → Option Value} (F : Fr g L h m) : g.get? L = none := Heap.get?_none_of_le F.above

section
variable {A₀ : Around} {base g h h' : Heap} {outer : List Env} {L : Addr} {m : Str → Option Value} {mods : List Addr} {news : List (Addr × Obj)} {Kf : Frag} {p : Program} {loose : List Str} {mean : ExcName → Option Value} {mg mb : Str → Option Value}

/-- behind a call that changed slots of frames: the ground anew -/
theorem ground_turn (K : Below A₀ base outer g) (F : Fr g L h m) (C : Chg (L :: frs outer) mods h h') (hm : ∀ b ∈ mods, g.get? b = none) (hL : L ∉ mods) :
    ∃ g', KtsTurn (frs outer) g g' ∧ Fr g' L h' m ∧ Below A₀ base outer g' := by
  have nm : ∀ b o, g.get? b = some o → b ∉ mods := fun b o e q => by rw [hm b q] at e; cases e
  obtain ⟨T, S⟩ := kts_turn_at (h := h') (fs := frs outer) (g := g)
    (fun b hb => by obtain ⟨_, o, ho, _⟩ := K.frames.mem hb; exact ⟨o, ho⟩)
    (fun b o e nf => C.keep b o (F.keep b o e) (nm b o e) (fun hm' => by
      rcases List.mem_cons.mp hm' with z | z
      · rw [z, self_none F] at e; cases e
      · exact nf z))
    (fun b o e hm' => C.slot b o (F.keep b o e) (nm b o e) (List.mem_cons_of_mem _ hm'))
  obtain ⟨oL, es, ep, hLo, hLd, hLr⟩ := F.ns
  obtain ⟨sl, hLs⟩ := C.up hLo hL
  refine ⟨_, T, ⟨⟨_, es, ep, hLs, hLd, hLr⟩, S, by rw [T.size]; exact F.above⟩, ⟨K.stack, fun b o e => T.other b o (K.stays b o e) (fun hm' => by rw [(K.frames.mem hm').1] at e; cases e), K.frames.of_keeps fun b o e _ => ?_⟩⟩
  obtain ⟨sl, hs⟩ := T.up e
  exact ⟨_, hs, rfl⟩
theorem turn_chg {g' : Heap} (T : KtsTurn (frs outer) g g') : Chg (frs outer) mods g g' :=
  ⟨fun b o e _ f => T.other b o e f, fun b o e _ f => T.frame b o e f⟩
theorem news_turn {g' : Heap} (T : KtsTurn (frs outer) g g') (C : Chg (L :: frs outer) mods h h') (N : News g L h news) (hn : ∀ q ∈ news, q.1 ∉ mods ∧ q.1 ∉ frs outer) : News g' L h' news := fun q hq => by
  obtain ⟨n1, n2, n3⟩ := N q hq
  refine ⟨C.keep _ _ n1 (hn q hq).1 (fun hm => ?_), n2, T.none_ _ n3⟩
  rcases List.mem_cons.mp hm with z | z
  · exact n2 z
  · exact (hn q hq).2 z
theorem frs_in (K : Below A₀ base outer g) {b : Addr} (hb : b ∈ frs outer) : ∃ o, g.get? b = some o := by
  obtain ⟨_, o, ho, _⟩ := K.frames.mem hb; exact ⟨o, ho⟩
theorem news_off_frames (K : Below A₀ base outer g) (N : News g L h news) : ∀ q ∈ news, q.1 ∉ frs outer := fun q hq hb => by
  obtain ⟨o, ho⟩ := frs_in K hb
  rw [(N q hq).2.2] at ho; cases ho

/-- the stack as a callee sees it -/
theorem stack_now {env : Env} (K : Below A₀ base outer g) (F : Fr g L h m) (hf : env.frame = some L) (hk : env.scope.kind = .function) : Below (A₀.deeper env) base (env :: outer) h := pushX K F hf hk
end

section
variable {prog : Program} {w : World} {A₀ : Around} {s : Shared} {base : Heap} {outer : List Env} {mods : List Addr} {Kf : Frag} {p : Program} {loose : List Str} {mean : ExcName → Option Value} {mg mb : Str → Option Value}
  {R : Result → Shared → Prop} {name qual : Str} {params : Arguments} {body : List Stmt} {scope : Scope} {dV kV doc pm cdv ct oc : Value} {an od : Option Addr} {osl : Array (Option Value)} {f : Addr} {args : Args} {binds : List (Str × Value)}

theorem hide_below (K0 : Below A₀ base outer s.heap) (hm : ∀ b ∈ mods, base.get? b = none ∧ b ∉ frs outer) : Below A₀ base outer (hideAll s.heap mods) := by
  refine ⟨K0.stack, fun b o e => hideAll_get _ (K0.stays b o e) (fun q => by rw [(hm b q).1] at e; cases e), funFrames_hideAll K0.frames fun env' he b hb hf' => ?_⟩
  exact (hm b hb).2 (List.mem_filterMap.mpr ⟨env', he, hf'⟩)

/-- a def is entered: the ground is all that stands, without what may turn -/
theorem enter_plain (K0 : Below A₀ base outer s.heap) (hm : ∀ b ∈ mods, base.get? b = none ∧ b ∉ frs outer) (XB : Kf.In base) (TB : Top p loose mean mg mb base)
    (ho : Kf.lookup f = some ⟨oc, od, .func (fnOf name qual params body scope dV kV doc pm an cdv ct), osl⟩) (hcd : codeIn Kf cdv qual = true) (hroom : A₀.depth < recursionLimit)
    (hbind : BindsTo s (fnOf name qual params body scope dV kV doc pm an cdv ct) args binds) (hloc : ∀ y ∈ binds, scope.names.lookup y.1 = some .local)
    (h : ∀ g L' h₁, Fr g L' h₁ (fun y => binds.reverse.lookup y) → Below A₀ base outer g → Kf.In g → Top p loose mean mg mb g → Chg (frs outer) mods s.heap g → (∀ b ∈ mods, g.get? b = none) → (∀ b o, s.heap.get? b = some o → h₁.get? b = some o) → L' = s.heap.objs.size →
      wpAny (model prog w) (A₀.deeper (envOf qual scope L' f cdv)) (execs body (envOf qual scope L' f cdv))
        (fun fl s' => R (.ok (.ret (match fl with | .ret v => v | _ => .none))) s')
        (fun e s' => wpAny (model prog w) (A₀.deeper (envOf qual scope L' f cdv)) (leaving (envOf qual scope L' f cdv) e) (fun _ s'' => R (.error e) s'') (fun e' s'' => R (.error e') s'') s')
        { s with heap := h₁, toks := s.toks + binds.length })
    (hcell : ∀ x ∈ scope.names, x.2 ≠ .cell) (hco : scope.isCoroutine = false := by rfl) (hgen : scope.isGenerator = false := by rfl) (hk : scope.kind = .function := by rfl) : codeAny (model prog w) A₀ (.call (.ref f) args) R s := by
  have X : Kf.In s.heap := XB.keeps K0.stays
  have T : Top p loose mean mg mb s.heap := TB.keeps K0.stays
  have Kg := hide_below K0 hm
  refine codeAny_call_def (fd := fnOf name qual params body scope dV kV doc pm an cdv ct) (body := body) (binds := binds) hroom (X _ _ ho) rfl T.nolimit (codeRec_of X hcd) rfl hbind hcell hloc (fun h₁ hns hk₁ => ?_) hco hgen hk
  refine h (hideAll s.heap mods) s.heap.objs.size h₁ ⟨hns, fun b o e => hk₁ b o (of_hideAll _ e), Nat.le_of_eq (hideAll_size _ _)⟩ Kg (XB.keeps Kg.stays) (TB.keeps Kg.stays) (Chg.of_keeps_but fun b o e m => hideAll_get _ e m) (fun b hb => hideAll_none _ hb) hk₁ rfl

/-- the same, of a def with cells -/
theorem enter_cells (K0 : Below A₀ base outer s.heap) (hm : ∀ b ∈ mods, base.get? b = none ∧ b ∉ frs outer) (XB : Kf.In base) (TB : Top p loose mean mg mb base)
    (ho : Kf.lookup f = some ⟨oc, od, .func (fnOf name qual params body scope dV kV doc pm an cdv ct), osl⟩) (hcd : codeIn Kf cdv qual = true) (hroom : A₀.depth < recursionLimit)
    (hbind : BindsTo s (fnOf name qual params body scope dV kV doc pm an cdv ct) args binds)
    (hkind : (binds.all fun y => scope.names.lookup y.1 == some .local || scope.names.lookup y.1 == some .cell) = true) (hnd : ((cellsFrom 0 scope.names []).map (·.1)).Nodup)
    (h : ∀ g L' h₁ tk cells, Fr g L' h₁ (bindL (envOfC qual scope L' f cdv).kindOf binds fun _ => none) → News g L' h₁ cells →
      CellsAre (bindC (envOfC qual scope L' f cdv).kindOf binds fun _ => none) (cellsFrom (L' + 1) scope.names []) cells → Below A₀ base outer g → Kf.In g → Top p loose mean mg mb g → Chg (frs outer) mods s.heap g → (∀ b ∈ mods, g.get? b = none) → (∀ b o, s.heap.get? b = some o → h₁.get? b = some o) → L' = s.heap.objs.size →
      wpAny (model prog w) (A₀.deeper (envOfC qual scope L' f cdv)) (execs body (envOfC qual scope L' f cdv))
        (fun fl s' => R (.ok (.ret (match fl with | .ret v => v | _ => .none))) s')
        (fun e s' => wpAny (model prog w) (A₀.deeper (envOfC qual scope L' f cdv)) (leaving (envOfC qual scope L' f cdv) e) (fun _ s'' => R (.error e) s'') (fun e' s'' => R (.error e') s'') s')
        { s with heap := h₁, toks := tk })
    (hco : scope.isCoroutine = false := by rfl) (hgen : scope.isGenerator = false := by rfl) (hk : scope.kind = .function := by rfl) : codeAny (model prog w) A₀ (.call (.ref f) args) R s := by
  have X : Kf.In s.heap := XB.keeps K0.stays
  have T : Top p loose mean mg mb s.heap := TB.keeps K0.stays
  have Kg := hide_below K0 hm
  refine codeAny_call_function hroom (X _ _ ho) rfl hco hgen rfl (codeRec_of X hcd) (hbind _ _ _ _ ?_)
  refine wpAny_newFunctionEnv_cells hk (kindsX hkind _) fun env' he s' x => ?_
  subst he
  refine ⟨T.nolimit.keeps x.toInCall.keep, codeAny_func ?_⟩
  obtain ⟨h₁, tk, rfl, _⟩ := x.done
  have hk₁ := x.toInCall.keep
  obtain ⟨cells, NC, Y⟩ := Cl.news (h₀ := s.heap) (Nat.le_refl _) fun n c hm => ⟨x.cell n c (lookup_of_mem_nodup (cellsFrom_names scope.names 0 (s.heap.objs.size + 1) [] [] rfl ▸ hnd) hm), x.above n c hm⟩
  refine h (hideAll s.heap mods) s.heap.objs.size h₁ tk cells ⟨x.toInCall.ns, fun b o e => hk₁ b o (of_hideAll _ e), Nat.le_of_eq (hideAll_size _ _)⟩ (fun q hq => ⟨(NC q hq).1, (NC q hq).2.1, ?_⟩) Y Kg (XB.keeps Kg.stays) (TB.keeps Kg.stays) (Chg.of_keeps_but fun b o e m => hideAll_get _ e m) (fun b hb => hideAll_none _ hb) hk₁ rfl
  cases q' : (hideAll s.heap mods).get? q.1 with
  | none => rfl
  | some o => have := of_hideAll _ q'; rw [(NC q hq).2.2] at this; cases this
end
end Mine
end
theorem Mine.anewSrc : True := by
  w_top off
  exact trivial
section
open PySem PySem.W PySem.Calls PyProof.Rows
set_option Elab.async false
set_option maxRecDepth 100000
set_option linter.unusedVariables false
namespace Mine

/-- values that bear numbers -/
def NmsAre (vs : List Value) (xs : List Nm) : Prop := vs.length = xs.length ∧ ∀ (i : Nat) v, vs[i]? = some v → ∃ a, xs[i]? = some a ∧ NmIs v a
theorem NmsAre.nil : NmsAre [] [] := ⟨rfl, fun i v h => by simp at h⟩

/-- a list, or a fresh iterator over one -/
inductive SrcAt (h : Heap) (vs : List Value) : Value → List Addr → Prop
  | list {l : Addr} : h.IsList l vs.toArray → SrcAt h vs (.ref l) []
  | iter {I l : Addr} : h.IsListIter I l 0 → h.IsList l vs.toArray → l ≠ I → SrcAt h vs (.ref I) [I]

section
variable {prog : Program} {w : World} {A : Around} {E : Value → Shared → Prop} {s : Shared} {v : Value} {vs : List Value} {mods : List Addr}

theorem src_iter (hA : A.handled = none) (S : SrcAt s.heap vs v mods) {Q : Value → Shared → Prop}
    (h : ∀ I l h', Walks prog w A I [I, l] [I] vs.toArray.size (fun i u => vs.toArray[i]? = some u) (fun i h => h.IsListIter I l i ∧ h.IsList l vs.toArray) → (h'.IsListIter I l 0 ∧ h'.IsList l vs.toArray) → (∀ b o, s.heap.get? b = some o → h'.get? b = some o) → I < h'.objs.size → l < h'.objs.size → l ≠ I →
      (I ∈ mods ∨ s.heap.get? I = none) → Q (.ref I) { s with heap := h' }) : wpAny (model prog w) A (pyIter v) Q E s := by
  cases S with
  | @list l hl =>
    have hlt : l < s.heap.objs.size := by obtain ⟨_, e, _⟩ := hl; exact Heap.lt_size e
    refine wpAny_pyIter_list hl (h s.heap.objs.size l _ (Walks.list hA _ l (Nat.ne_of_lt hlt) _) ⟨⟨_, Heap.get?_push_size _ rfl, rfl, rfl⟩, hl.push _⟩ (fun b o e => Heap.get?_push_of_some _ e) ?_ ?_ (Nat.ne_of_lt hlt) (.inr (Heap.get?_none_of_le (Nat.le_refl _))))
    · rw [Heap.size_push]; exact Nat.lt_succ_self _
    · rw [Heap.size_push]; exact Nat.lt_succ_of_lt hlt
  | @iter I l hi hl hne =>
    refine wpAny_pyIter_listiter hi (h I l s.heap (Walks.list hA _ l hne _) ⟨hi, hl⟩ (fun _ _ e => e) ?_ ?_ hne (.inl List.mem_cons_self))
    · obtain ⟨_, e, _⟩ := hi; exact Heap.lt_size e
    · obtain ⟨_, e, _⟩ := hl; exact Heap.lt_size e

theorem src_item {i : Nat} {u : Value} {xs : List Nm} (hN : NmsAre vs xs) (h : vs.toArray[i]? = some u) : ∃ a, xs[i]? = some a ∧ NmIs u a := hN.2 i u (by simpa using h)

theorem fsum_src (hA : A.handled = none) (S : SrcAt s.heap vs v mods) {xs : List Nm} (hN : NmsAre vs xs) (hfit : ∀ a ∈ xs, a.fits) (hlen : xs.length < sizeLine) (hok : fsumOk [] (xs.map Nm.real)) {Q : Value → Shared → Prop}
    (h : ∀ h' tk t, (∀ b o, b ∉ mods → s.heap.get? b = some o → h'.get? b = some o) → Q (.float (fsumP (xs.map Nm.real)) t) { s with heap := h', toks := tk }) :
    wpAny (model prog w) A (call (.builtin "math.fsum") [v]) Q E s := by
  refine call_fsum hA hfit hlen hok (src_iter (A := A.in1) hA S fun I l h' W st hk hI hl hne hnew => ?_)
  have hsz : vs.toArray.size = xs.length := by simpa using hN.1
  rw [hsz] at W
  refine ⟨I, [I, l], [I], _, _, _, rfl, W.toS, st, fun b hb => ?_, fun i u hu => src_item hN hu, fun s' t hm => ?_⟩
  · rcases List.mem_cons.mp hb with rfl | hb
    · exact hI
    · rw [List.mem_singleton.mp hb]; exact hl
  · have hm' : s' = { s with heap := s'.heap, toks := s'.toks } := by
      obtain ⟨h1, g1, d1, t1, o1⟩ := s'
      obtain ⟨_, hg, hd, ho, _⟩ := hm
      simp only at hg hd ho ⊢
      rw [hg, hd, ho]
    rw [hm']
    refine h _ _ t fun b o hb e => hm.heap b o (fun q => ?_) (hk b o e)
    rw [List.mem_singleton.mp q] at hb e
    rcases hnew with z | z
    · exact hb z
    · rw [z] at e; cases e

theorem iter_ne_list {h : Heap} {I l i : Nat} {l' : Addr} {items : Array Value} (x : h.IsListIter I l' i) (y : h.IsList l items) : I ≠ l := fun q => by
  obtain ⟨o, ho, hc, _⟩ := x
  obtain ⟨o', ho', hc', _⟩ := y
  rw [q, ho'] at ho
  cases ho
  rw [hc] at hc'
  simp at hc'

/-- a source and a list, each walked from its start -/
theorem sp_src {vs2 : List Value} {r2 : Addr} (hA : A.handled = none) (S1 : SrcAt s.heap vs v mods) (hl2 : s.heap.IsList r2 vs2.toArray) {Q : Value → Shared → Prop}
    (h : ∀ I J l1 (s₂ : Shared), Two prog w A.in1 I J ([I, l1] ++ [J, r2]) ([I] ++ [J]) (fun a b => b = a) vs.toArray.size vs2.toArray.size (fun i u => vs.toArray[i]? = some u) (fun i u => vs2.toArray[i]? = some u)
        (fun i j (s : Shared) => (s.heap.IsListIter I l1 i ∧ s.heap.IsList l1 vs.toArray) ∧ (s.heap.IsListIter J r2 j ∧ s.heap.IsList r2 vs2.toArray)) →
      ((s₂.heap.IsListIter I l1 0 ∧ s₂.heap.IsList l1 vs.toArray) ∧ (s₂.heap.IsListIter J r2 0 ∧ s₂.heap.IsList r2 vs2.toArray)) →
      s₂ = { s with heap := s₂.heap } → (∀ b o, s.heap.get? b = some o → s₂.heap.get? b = some o) → (∀ b ∈ [I, l1] ++ [J, r2], b < s₂.heap.objs.size) → (∀ b ∈ [I] ++ [J], b ∈ mods ∨ s.heap.get? b = none) →
      codeAny (model prog w) A (.builtin "math.sumprod.loop" ⟨[.ref I, .ref J, .int 0 s₂.toks, .bool true, rawInt 0, .bool false, .bool true, .ref s₂.heap.objs.size, .bool false], []⟩) (RetQ Q E) { s₂ with heap := s₂.heap.push (triTup zero3 0), toks := s₂.toks + 1 }) :
    wpAny (model prog w) A (call (.builtin "math.sumprod") [v, .ref r2]) Q E s := by
  have hr2 : r2 < s.heap.objs.size := by obtain ⟨_, e, _⟩ := hl2; exact Heap.lt_size e
  refine call_sp_enter (src_iter (A := A.in1) hA S1 fun I l1 h1 W1 st1 hk1 hI hl1 hne1 hnew1 => ?_)
  have hl2' : h1.IsList r2 vs2.toArray := hl2.at fun o e => hk1 _ _ e
  have hIr : I ≠ r2 := iter_ne_list st1.1 hl2'
  have hr2' : r2 < h1.objs.size := by obtain ⟨_, e, _⟩ := hl2'; exact Heap.lt_size e
  refine wpAny_pyIter_list (s := { s with heap := h1 }) hl2' ?_
  have n1 : h1.objs.size ≠ I := Nat.ne_of_gt hI
  have n2 : h1.objs.size ≠ l1 := Nat.ne_of_gt hl1
  refine h I h1.objs.size l1 _ (Two.of_walks W1 (Walks.list (A := A.in1) hA _ r2 (Nat.ne_of_lt hr2') _) ?_ ?_) ⟨⟨?_, st1.2.push _⟩, ⟨⟨_, Heap.get?_push_size _ rfl, rfl, rfl⟩, hl2'.push _⟩⟩ rfl (fun b o e => Heap.get?_push_of_some _ (hk1 _ _ e)) ?_ ?_
  · intro b hb
    rw [List.mem_singleton.mp hb]
    simp only [List.mem_cons, List.not_mem_nil, or_false, not_or]
    exact ⟨Ne.symm n1, hIr⟩
  · intro b hb
    rw [List.mem_singleton.mp hb]
    simp only [List.mem_cons, List.not_mem_nil, or_false, not_or]
    exact ⟨n1, n2⟩
  · exact st1.1.at fun o e => Heap.get?_push_of_some _ e
  · intro b hb
    show b < (h1.push _).objs.size
    rw [Heap.size_push]
    simp only [List.cons_append, List.nil_append, List.mem_cons, List.not_mem_nil, or_false] at hb
    rcases hb with rfl | rfl | rfl | rfl
    · exact Nat.lt_succ_of_lt hI
    · exact Nat.lt_succ_of_lt hl1
    · exact Nat.lt_succ_self _
    · exact Nat.lt_succ_of_lt hr2'
  · intro b hb
    simp only [List.cons_append, List.nil_append, List.mem_cons, List.not_mem_nil, or_false] at hb
    rcases hb with rfl | rfl
    · exact hnew1
    · right
      cases z : s.heap.get? h1.objs.size with
      | none => rfl
      | some o => exact absurd (Heap.lt_size (hk1 _ _ z)) (Nat.lt_irrefl _)

/-- the error of a sum of products -/
theorem sp_ints {vs2 : List Value} {r2 : Addr} (hA : A.handled = none) (S1 : SrcAt s.heap vs v mods) (hl2 : s.heap.IsList r2 vs2.toArray) {xs ys : List Int} (hi1 : IntsAre vs xs) (hi2 : IntsAre vs2 ys)
    (hmul : ∀ (i : Nat) a b, xs[i]? = some a → ys[i]? = some b → IntMulOk a b) {Q : Value → Shared → Prop}
    (h : xs.length = ys.length → ∀ h' tk t, (∀ b o, b ∉ mods → s.heap.get? b = some o → h'.get? b = some o) → Q (.int (dot xs ys) t) { s with heap := h', toks := tk })
    (hE : xs.length ≠ ys.length → ∀ h₁ h' tk e, (∀ b o, b ∉ mods → s.heap.get? b = some o → h₁.get? b = some o) → Heap.NewExc h₁ h' e "ValueError" → E (.ref e) { s with heap := h', toks := tk }) :
    wpAny (model prog w) A (call (.builtin "math.sumprod") [v, .ref r2]) Q E s := by
  refine sp_src hA S1 hl2 fun I J l1 s₂ W st es hk hB hnew => ?_
  have n1 : vs.toArray.size = xs.length := by simpa using hi1.length
  have n2 : vs2.toArray.size = ys.length := by simpa using hi2.length
  rw [n1, n2] at W
  have at_ : ∀ {vs : List Value} {xs : List Int}, IntsAre vs xs → ∀ (i : Nat) u, vs.toArray[i]? = some u → ∃ a t, xs[i]? = some a ∧ u = .int a t := by
    intro vs xs hi
    induction hi with
    | nil => intro i u hu; simp at hu
    | @cons n t vs ns _ ih =>
      intro i u hu
      cases i with
      | zero => simp at hu; exact ⟨n, _, rfl, hu.symm⟩
      | succ i => simp at hu; exact ih i u (by simpa using hu)
  have fold : ∀ s' : Shared, Moved ([I] ++ [J]) (fun a b => b = a) s₂ s' → s' = { s with heap := s'.heap, toks := s'.toks } ∧ ∀ b o, b ∉ mods → s.heap.get? b = some o → s'.heap.get? b = some o := by
    intro s' hm
    refine ⟨?_, fun b o hb e => hm.heap b o (fun q => ?_) (hk b o e)⟩
    · obtain ⟨h1, g1, d1, t1, o1⟩ := s'
      obtain ⟨_, hg, hd, ho, _⟩ := hm
      rw [es] at hg hd ho
      simp only at hg hd ho ⊢
      rw [hg, hd, ho]
    · rcases hnew b q with z | z
      · exact hb z
      · rw [z] at e; cases e
  have un : ∀ {s' : Shared}, Moved ([I] ++ [J]) (fun a b => b = a) { s₂ with heap := s₂.heap.push (triTup zero3 0), toks := s₂.toks + 1 } s' → Moved ([I] ++ [J]) (fun a b => b = a) s₂ s' := fun hm =>
    ⟨fun b o hb e => hm.heap b o hb (Heap.get?_push_of_some _ e), hm.gens, hm.drawn, hm.os, Nat.le_trans (Nat.le_succ _) hm.toks⟩
  refine codeAny_sp_ints (A := A) hA W (at_ hi1) (at_ hi2) hmul s₂.heap.objs.size hB xs.length 0 _ _ _ _ _ _ _ zero3 0 (by omega) (Nat.zero_le _) (Nat.zero_le _) ⟨⟨st.1.1.at fun o e => Heap.get?_push_of_some _ e, st.1.2.push _⟩, ⟨st.2.1.at fun o e => Heap.get?_push_of_some _ e, st.2.2.push _⟩⟩
    (.spI _) (Nat.le_refl _) (Heap.get?_push_size _ rfl) (fun he s' t hm => ?_) (fun hne s' h' tk e hm hx => ?_)
  · obtain ⟨e1, e2⟩ := fold s' (un hm)
    show Q _ s'
    rw [e1]
    exact h he _ _ t e2
  · obtain ⟨e1, e2⟩ := fold s' (un hm)
    show E _ _
    rw [e1]
    exact hE hne s'.heap h' tk e e2 hx

theorem sp_flts {vs2 : List Value} {r2 : Addr} (hA : A.handled = none) (S1 : SrcAt s.heap vs v mods) (hl2 : s.heap.IsList r2 vs2.toArray) {xs ys : List Nm} (hi1 : NmsAre vs xs) (hi2 : NmsAre vs2 ys) (hlen : xs.length = ys.length)
    (hf1 : ∀ a ∈ xs, a.fits) (hf2 : ∀ a ∈ ys, a.fits) (hone : ∀ (i : Nat) a b, xs[i]? = some a → ys[i]? = some b → (a.isf || b.isf) = true) (hok : triOk zero3 ((xs.map Nm.real).zip (ys.map Nm.real))) {Q : Value → Shared → Prop}
    (h : ∀ h' tk u, NmIs u (sprodF ((xs.map Nm.real).zip (ys.map Nm.real))) → (∀ b o, b ∉ mods → s.heap.get? b = some o → h'.get? b = some o) → Q u { s with heap := h', toks := tk }) :
    wpAny (model prog w) A (call (.builtin "math.sumprod") [v, .ref r2]) Q E s := by
  refine sp_src hA S1 hl2 fun I J l1 s₂ W st es hk hB hnew => ?_
  have n1 : vs.toArray.size = xs.length := by simpa using hi1.1
  have n2 : vs2.toArray.size = ys.length := by simpa using hi2.1
  rw [n1, n2] at W
  have fold : ∀ s' : Shared, Moved ([I] ++ [J]) (fun a b => b = a) s₂ s' → s' = { s with heap := s'.heap, toks := s'.toks } ∧ ∀ b o, b ∉ mods → s.heap.get? b = some o → s'.heap.get? b = some o := by
    intro s' hm
    refine ⟨?_, fun b o hb e => hm.heap b o (fun q => ?_) (hk b o e)⟩
    · obtain ⟨h1, g1, d1, t1, o1⟩ := s'
      obtain ⟨_, hg, hd, ho, _⟩ := hm
      rw [es] at hg hd ho
      simp only at hg hd ho ⊢
      rw [hg, hd, ho]
    · rcases hnew b q with z | z
      · exact hb z
      · rw [z] at e; cases e
  have un : ∀ {s' : Shared}, Moved ([I] ++ [J]) (fun a b => b = a) { s₂ with heap := s₂.heap.push (triTup zero3 0), toks := s₂.toks + 1 } s' → Moved ([I] ++ [J]) (fun a b => b = a) s₂ s' := fun hm =>
    ⟨fun b o hb e => hm.heap b o hb (Heap.get?_push_of_some _ e), hm.gens, hm.drawn, hm.os, Nat.le_trans (Nat.le_succ _) hm.toks⟩
  refine codeAny_sp_flts (A := A) hA hlen W (fun i u hu => src_item hi1 hu) (fun i u hu => src_item hi2 hu) hf1 hf2 hone s₂.heap.objs.size hB xs.length 0 _ true false _ zero3 0 _ (by omega) (Nat.zero_le _) ⟨⟨st.1.1.at fun o e => Heap.get?_push_of_some _ e, st.1.2.push _⟩, ⟨st.2.1.at fun o e => Heap.get?_push_of_some _ e, st.2.2.push _⟩⟩
    (fun _ => rfl) (fun h0 => absurd h0 (Nat.lt_irrefl _)) (Nat.le_refl _) (Heap.get?_push_size _ rfl) (by simpa using hok) (fun s' u hu hm => ?_)
  obtain ⟨e1, e2⟩ := fold s' (un hm)
  show Q _ s'
  rw [e1]
  refine h _ _ u ?_ e2
  unfold sprodF
  cases xs with
  | nil => simpa using hu
  | cons a xs =>
    cases ys with
    | nil => simp at hlen
    | cons b ys => simpa using hu
end
end Mine
end
theorem Mine.anewHd1 : True := by
  w_top off
  exact trivial
section
open PySem PySem.W PyProof.Rows
set_option Elab.async false
set_option maxRecDepth 100000
set_option maxHeartbeats 8000000
namespace Mine
open_top hd1 for PySem.Challenge.rw_kp0013_01
end Mine
end
theorem Mine.anewX1 : True := by
  w_top off
  exact trivial
section
open PySem PySem.Float64
set_option Elab.async false
set_option linter.unusedVariables false
set_option exponentiation.threshold 3000
namespace Mine

theorem pow_cast (k : Nat) : ((2 ^ k : Nat) : Int) = (2 : Int) ^ k := by rw [Int.natCast_pow]; rfl

theorem natAbs_pow (k : Nat) : ((2 : Int) ^ k).natAbs = 2 ^ k := by rw [← pow_cast, Int.natAbs_natCast]
/-- a finite float and its value, in the least unit -/
def Fl (x : UInt64) (z : Int) : Prop := (∃ a m e, decode x = .fin a m e) ∧ val x = z
/-- a magnitude that a float has -/
def Rep (W : Nat) : Prop := ∃ t, t < infMag ∧ V t = W

theorem rep_pow : ∀ (k q : Nat), q ≤ 2 ^ 53 → k ≤ 2044 → Rep (q * 2 ^ k)
  | 0, q, hq, _ => ⟨q, by unfold infMag; omega, by have := V_at (k := 0) hq (.inr rfl); simpa using this⟩
  | k + 1, q, hq, hk => by
    by_cases h : 2 ^ 52 ≤ q
    · refine ⟨(k + 1) * 2 ^ 52 + q, ?_, V_at hq (.inl h)⟩
      unfold infMag
      omega
    · have := rep_pow k (2 * q) (by omega) (by omega)
      rw [show q * 2 ^ (k + 1) = 2 * q * 2 ^ k by rw [Nat.pow_succ]; ac_rfl]
      exact this

theorem V_top {t : Nat} (h : t < infMag) : V t ≤ (2 ^ 53 - 1) * 2 ^ 2045 := by
  have e : V (infMag - 1) = (2 ^ 53 - 1) * 2 ^ 2045 := by
    have := V_at (k := 2045) (q := 2 ^ 53 - 1) (by omega) (.inl (by omega))
    rw [← this]
    congr 1
  rw [← e]
  exact V_mono (by omega)

theorem dist_self' (a : Nat) : dist a a = 0 := by unfold dist; omega
theorem eq_of_dist {a b : Nat} (h : dist a b ≤ 0) : a = b := by unfold dist at h; omega

theorem right_exact {r : UInt64} {neg : Bool} {W D X : Nat} (h : Right r neg W D) (hD : 0 < D) (hW : W = D * X) (hX : Rep X) : Fl r (sgn neg X) := by
  obtain ⟨t, rfl, hle, hov, hn⟩ := h
  obtain ⟨t0, ht0, rfl⟩ := hX
  have hlt : t < infMag := by
    rcases Nat.lt_or_eq_of_le hle with h | h
    · exact h
    · exfalso
      have h1 := hov.mp h
      have h2 := V_top ht0
      rw [hW] at h1
      have h3 : D * ((2 ^ 54 - 1) * 2 ^ 2045) ≤ D * (2 * V t0) := by rw [show D * (2 * V t0) = 2 * (D * V t0) by ac_rfl]; exact h1
      have h4 := Nat.le_of_mul_le_mul_left h3 hD
      have h5 : 2 * V t0 ≤ 2 * ((2 ^ 53 - 1) * 2 ^ 2045) := Nat.mul_le_mul_left 2 h2
      have h6 : 2 * ((2 ^ 53 - 1) * 2 ^ 2045) < (2 ^ 54 - 1) * 2 ^ 2045 := by
        rw [← Nat.mul_assoc]
        exact Nat.mul_lt_mul_of_pos_right (by decide) (Nat.two_pow_pos _)
      omega
  have hd := (hn hlt t0).1
  rw [hW, dist_self'] at hd
  have hV := Nat.eq_of_mul_eq_mul_left hD (eq_of_dist hd)
  obtain ⟨m, e, hde, _⟩ := decode_pack neg hlt
  exact ⟨⟨neg, m, e, hde⟩, by rw [val_pack neg hlt, hV]⟩

theorem fl_zero (b : Bool) : Fl (zero b) 0 := by
  have h : (0 : Nat) < infMag := by decide
  obtain ⟨m, e, hde, _⟩ := decode_pack b h
  refine ⟨⟨b, m, e, hde⟩, ?_⟩
  show val (pack b 0) = 0
  rw [val_pack b h, V_zero]
  cases b <;> rfl

theorem sgn_natAbs_self (z : Int) : sgn (decide (z < 0)) z.natAbs = z := by
  unfold sgn
  by_cases h : z < 0
  · simp [h]; omega
  · simp [h]; omega

theorem fl_add {x y : UInt64} {a b : Int} (hx : Fl x a) (hy : Fl y b) (hr : Rep (a + b).natAbs) : Fl (add x y) (a + b) := by
  obtain ⟨⟨sx, mx, ex, dx⟩, vx⟩ := hx
  obtain ⟨⟨sy, my, ey, dy⟩, vy⟩ := hy
  have h := add_right dx dy
  rw [vx, vy] at h
  by_cases h0 : a + b = 0
  · rw [h.1 h0, h0]; exact fl_zero _
  · have := right_exact (h.2 h0) (by decide) (X := (a + b).natAbs) (by omega) hr
    rwa [sgn_natAbs_self] at this

theorem fl_neg {x : UInt64} {a : Int} (hx : Fl x a) : Fl (neg x) (-a) := by
  obtain ⟨⟨sx, mx, ex, dx⟩, vx⟩ := hx
  exact ⟨⟨_, _, _, neg_decode dx⟩, by rw [neg_val dx, vx]⟩

theorem fl_sub {x y : UInt64} {a b : Int} (hx : Fl x a) (hy : Fl y b) (hr : Rep (a - b).natAbs) : Fl (sub x y) (a - b) := by
  have h : a - b = a + -b := Int.sub_eq_add_neg
  unfold sub
  rw [h] at hr ⊢
  exact fl_add hx (fl_neg hy) hr

theorem fl_sign {x : UInt64} {s : Bool} {m : Nat} {e : Int} (h : decode x = .fin s m e) : val x = sgn s (val x).natAbs := by
  rw [val_natAbs h, val_eq h]
theorem sgn_xor (a b : Bool) (m k : Nat) : sgn (a != b) (m * k) = sgn a m * sgn b k := by
  unfold sgn
  cases a <;> cases b <;> simp [Int.neg_mul, Int.mul_neg]

theorem fl_mul {x y : UInt64} {a b c : Int} (hx : Fl x a) (hy : Fl y b) (hc : a * b = 2 ^ 1074 * c) (hr : Rep c.natAbs) : Fl (mul x y) c := by
  obtain ⟨⟨sx, mx, ex, dx⟩, vx⟩ := hx
  obtain ⟨⟨sy, my, ey, dy⟩, vy⟩ := hy
  have h := mul_right dx dy
  have hs : sgn (sx != sy) ((val x).natAbs * (val y).natAbs) = a * b := by rw [sgn_xor, ← fl_sign dx, ← fl_sign dy, vx, vy]
  rw [vx, vy] at h hs
  have hab : a.natAbs * b.natAbs = 2 ^ 1074 * c.natAbs := by
    rw [← Int.natAbs_mul, hc, Int.natAbs_mul, natAbs_pow]
  have := right_exact h (Nat.two_pow_pos _) hab hr
  have e : sgn (sx != sy) c.natAbs = c := by
    have hp : ((2 ^ 1074 : Nat) : Int) ≠ 0 := by have := Nat.two_pow_pos 1074; omega
    apply Int.eq_of_mul_eq_mul_left hp
    have hpc := pow_cast 1074
    rw [hab, Nat.mul_comm, sgn_mul, Int.mul_comm] at hs
    rw [hs, hc, hpc]
  rwa [e] at this

theorem fl_div {x y : UInt64} {a b c : Int} (hx : Fl x a) (hy : Fl y b) (hb : b ≠ 0) (hc : a * 2 ^ 1074 = b * c) (hr : Rep c.natAbs) : Fl (div x y) c := by
  obtain ⟨⟨sx, mx, ex, dx⟩, vx⟩ := hx
  obtain ⟨⟨sy, my, ey, dy⟩, vy⟩ := hy
  have hk : my ≠ 0 := by
    intro h
    have := val_eq dy
    rw [h, Nat.zero_mul] at this
    rw [vy] at this
    apply hb
    rw [this]
    cases sy <;> rfl
  have h := div_right dx dy hk
  have fx := fl_sign dx
  have fy := fl_sign dy
  rw [vx, vy] at h
  rw [vx] at fx
  rw [vy] at fy
  have hab : a.natAbs * 2 ^ 1074 = b.natAbs * c.natAbs := by
    rw [← Int.natAbs_mul, ← hc, Int.natAbs_mul, natAbs_pow]
  have := right_exact h (by omega) hab hr
  have e : sgn (sx != sy) c.natAbs = c := by
    apply Int.eq_of_mul_eq_mul_left hb
    rw [← hc]
    have h1 : sgn (sx != sy) a.natAbs * ((2 ^ 1074 : Nat) : Int) = sgn (sx != sy) c.natAbs * (b.natAbs : Int) := by rw [← sgn_mul, ← sgn_mul, hab, Nat.mul_comm]
    rw [← pow_cast]
    generalize ((2 ^ 1074 : Nat) : Int) = K at *
    generalize hcn : (c.natAbs : Int) = C at *
    have e1 : ∀ s : Bool, sgn s a.natAbs = if s then -(a.natAbs : Int) else a.natAbs := fun s => rfl
    have e2 : ∀ s : Bool, sgn s c.natAbs = if s then -C else C := fun s => by unfold sgn; rw [hcn]
    have e3 : ∀ s : Bool, sgn s b.natAbs = if s then -(b.natAbs : Int) else b.natAbs := fun s => rfl
    rw [e1] at fx
    rw [e3] at fy
    rw [e1, e2] at h1
    rw [e2]
    rw [fx, fy]
    generalize (a.natAbs : Int) = P at *
    generalize (b.natAbs : Int) = R at *
    rw [Int.mul_comm _ R] at h1
    cases sx <;> cases sy <;> simp only [Bool.false_eq_true, if_true, if_false, bne_self_eq_false, Bool.true_bne, Bool.false_bne, Bool.not_false, Int.neg_mul, Int.mul_neg, Int.neg_neg] at h1 ⊢ <;> omega
  rwa [e] at this

theorem fl_ofInt (i : Int) (hr : Rep (i.natAbs * 2 ^ 1074)) : Fl (ofInt i) (i * 2 ^ 1074) := by
  have := right_exact (ofInt_right i) (by decide) (X := i.natAbs * 2 ^ 1074) (by omega) hr
  rw [sgn_mul, sgn_natAbs_self] at this
  rwa [pow_cast] at this

theorem fl_fin {x : UInt64} {a : Int} (h : Fl x a) : isFinite x = true := by
  obtain ⟨⟨s, m, e, d⟩, _⟩ := h
  unfold isFinite; rw [d]
theorem fl_isZero {x : UInt64} {a : Int} (h : Fl x a) : isZero x = decide (a = 0) := by
  obtain ⟨⟨s, m, e, d⟩, v⟩ := h
  have := val_natAbs d
  rw [v] at this
  unfold isZero; rw [d]
  cases m with
  | zero => simp at this; simp [this]
  | succ m =>
    simp
    intro h
    rw [h] at this
    have hp := Nat.mul_pos (Nat.succ_pos m) (Nat.two_pow_pos (e + 1074).toNat)
    rw [← this] at hp
    exact Nat.lt_irrefl 0 hp
theorem fl_cmp {x y : UInt64} {a b : Int} (hx : Fl x a) (hy : Fl y b) : cmp x y = some (compare a b) := by
  obtain ⟨⟨sx, mx, ex, dx⟩, vx⟩ := hx
  obtain ⟨⟨sy, my, ey, dy⟩, vy⟩ := hy
  rw [cmp_right dx dy, vx, vy]
theorem fl_eq {x : UInt64} {a b : Int} (hx : Fl x a) (hy : Fl x b) : a = b := hx.2.symm.trans hy.2

theorem fl_fma0 {x y z : UInt64} {a b c : Int} (hx : Fl x a) (hy : Fl y b) (hz : Fl z c) (h : a * b + 2 ^ 1074 * c = 0) : Fl (fma x y z) 0 := by
  obtain ⟨⟨sx, mx, ex, dx⟩, vx⟩ := hx
  obtain ⟨⟨sy, my, ey, dy⟩, vy⟩ := hy
  obtain ⟨⟨sz, mz, ez, dz⟩, vz⟩ := hz
  have he := decode_ge dx
  have hf := decode_ge dy
  have hg := decode_ge dz
  have h1 : sgn (sx != sy) (mx * my * 2 ^ ((ex + ey) - min (ex + ey) ez).toNat) * ((2 ^ (min (ex + ey) ez + 2148).toNat : Nat) : Int) = a * b := by
    rw [← sgn_mul, ← vx, ← vy, val_eq dx, val_eq dy, ← sgn_xor]
    congr 1
    rw [Nat.mul_assoc (mx * my), ← Nat.pow_add]
    have e1 : ((ex + ey) - min (ex + ey) ez).toNat + (min (ex + ey) ez + 2148).toNat = (ex + 1074).toNat + (ey + 1074).toNat := by omega
    rw [e1, Nat.pow_add]
    ac_rfl
  have h2 : sgn sz (mz * 2 ^ (ez - min (ex + ey) ez).toNat) * ((2 ^ (min (ex + ey) ez + 2148).toNat : Nat) : Int) = 2 ^ 1074 * c := by
    rw [← sgn_mul, ← vz, val_eq dz, Nat.mul_assoc mz, ← Nat.pow_add]
    have e1 : (ez - min (ex + ey) ez).toNat + (min (ex + ey) ez + 2148).toNat = (ez + 1074).toNat + 1074 := by omega
    rw [e1, Nat.pow_add, ← Nat.mul_assoc, sgn_mul, Int.mul_comm, pow_cast]
  have hd : fma x y z = (if sgn (sx != sy) (mx * my * 2 ^ ((ex + ey) - min (ex + ey) ez).toNat) + sgn sz (mz * 2 ^ (ez - min (ex + ey) ez).toNat) == 0 then zero (if mx * my == 0 && mz == 0 then (sx != sy) && sz else false)
      else ofBin (decide (sgn (sx != sy) (mx * my * 2 ^ ((ex + ey) - min (ex + ey) ez).toNat) + sgn sz (mz * 2 ^ (ez - min (ex + ey) ez).toNat) < 0)) (sgn (sx != sy) (mx * my * 2 ^ ((ex + ey) - min (ex + ey) ez).toNat) + sgn sz (mz * 2 ^ (ez - min (ex + ey) ez).toNat)).natAbs (min (ex + ey) ez)) := by
    unfold fma
    rw [dx, dy, dz]
    rfl
  rw [← h1, ← h2, ← Int.add_mul] at h
  have hp : ((2 ^ (min (ex + ey) ez + 2148).toNat : Nat) : Int) ≠ 0 := by have := Nat.two_pow_pos (min (ex + ey) ez + 2148).toNat; omega
  rcases Int.mul_eq_zero.mp h with h | h
  · rw [hd, if_pos (by simpa using h)]
    exact fl_zero _
  · exact absurd h hp
end Mine
end
theorem Mine.anewX2 : True := by
  w_top off
  exact trivial
section
open PySem PySem.Float64
set_option Elab.async false
set_option linter.unusedVariables false
set_option exponentiation.threshold 3000
namespace Mine

/-- the float's value is m / 2 ^ 14 -/
def Ex (x : UInt64) (m : Int) : Prop := Fl x (m * 2 ^ 1060)
def Sm (m : Int) : Prop := m.natAbs ≤ 2 ^ 53
theorem sm0 : Sm 0 := by unfold Sm; decide
def Nx (a : Nm) (m : Int) : Prop := match a with
  | .i n => m = n * 2 ^ 14
  | .f x => Ex x m

theorem rep_sm {m : Int} (h : Sm m) : Rep (m * 2 ^ 1060).natAbs := by
  rw [Int.natAbs_mul, natAbs_pow]
  exact rep_pow 1060 _ h (by omega)
theorem scale_pos : (0 : Int) < 2 ^ 1060 := by rw [← pow_cast]; exact Int.ofNat_lt.mpr (Nat.two_pow_pos _)
theorem scale_inj {a b : Int} (h : a * 2 ^ 1060 = b * 2 ^ 1060) : a = b := Int.eq_of_mul_eq_mul_right (Int.ne_of_gt scale_pos) h
theorem ex_unique {x : UInt64} {a b : Int} (hx : Ex x a) (hy : Ex x b) : a = b := scale_inj (fl_eq hx hy)
theorem ex_add {x y : UInt64} {a b : Int} (hx : Ex x a) (hy : Ex y b) (hs : Sm (a + b)) : Ex (add x y) (a + b) := by
  have := fl_add hx hy (by rw [← Int.add_mul]; exact rep_sm hs)
  rwa [← Int.add_mul] at this
theorem ex_sub {x y : UInt64} {a b : Int} (hx : Ex x a) (hy : Ex y b) (hs : Sm (a - b)) : Ex (sub x y) (a - b) := by
  have := fl_sub hx hy (by rw [← Int.sub_mul]; exact rep_sm hs)
  rwa [← Int.sub_mul] at this
theorem ex_zero (b : Bool) : Ex (zero b) 0 := by
  have := fl_zero b
  unfold Ex
  rwa [Int.zero_mul]
theorem split_pow : (2 : Int) ^ 1074 = 2 ^ 14 * 2 ^ 1060 := by rw [← Int.pow_add]
theorem ex_ofInt {n : Int} (hs : Sm (n * 2 ^ 14)) : Ex (ofInt n) (n * 2 ^ 14) := by
  have h : Rep (n.natAbs * 2 ^ 1074) := by
    have := rep_sm hs
    rw [Int.mul_assoc, ← split_pow, Int.natAbs_mul, natAbs_pow] at this
    exact this
  have := fl_ofInt n h
  unfold Ex
  rw [Int.mul_assoc, ← split_pow]
  exact this
theorem ex_mul {x y : UInt64} {a b c : Int} (hx : Ex x a) (hy : Ex y b) (hc : a * b = c * 2 ^ 14) (hs : Sm c) : Ex (mul x y) c := by
  refine fl_mul hx hy ?_ (rep_sm hs)
  have : a * 2 ^ 1060 * (b * 2 ^ 1060) = (a * b) * 2 ^ 1060 * 2 ^ 1060 := by
    generalize (2 : Int) ^ 1060 = K
    rw [Int.mul_assoc, Int.mul_assoc, Int.mul_assoc]
    congr 1
    rw [← Int.mul_assoc, ← Int.mul_assoc, Int.mul_comm K b]
  rw [this, hc, split_pow]
  generalize (2 : Int) ^ 1060 = K
  generalize (2 : Int) ^ 14 = T
  rw [Int.mul_comm c T, Int.mul_assoc T c, Int.mul_assoc T, Int.mul_comm (c * K) K, ← Int.mul_assoc T K]
theorem ex_div {x y : UInt64} {a c n : Int} (hx : Ex x a) (hy : Ex y (n * 2 ^ 14)) (hn : n ≠ 0) (hc : a = c * n) (hs : Sm c) : Ex (div x y) c := by
  have hp : (n * 2 ^ 14 * 2 ^ 1060 : Int) ≠ 0 := by
    intro h
    rcases Int.mul_eq_zero.mp h with h | h
    · omega
    · have := scale_pos
      omega
  refine fl_div hx hy hp ?_ (rep_sm hs)
  rw [hc, split_pow]
  generalize (2 : Int) ^ 1060 = K
  generalize (2 : Int) ^ 14 = T
  rw [Int.mul_comm c n, Int.mul_assoc n T K, Int.mul_assoc n c K, Int.mul_assoc n, Int.mul_assoc n]
  congr 1
  rw [Int.mul_comm]
theorem ex_fma0 {x y z : UInt64} {a b c : Int} (hx : Ex x a) (hy : Ex y b) (hz : Ex z (-c)) (hc : a * b = c * 2 ^ 14) : Ex (fma x y z) 0 := by
  have : Fl (fma x y z) 0 := by
    refine fl_fma0 hx hy hz ?_
    have : a * 2 ^ 1060 * (b * 2 ^ 1060) = (a * b) * 2 ^ 1060 * 2 ^ 1060 := by
      generalize (2 : Int) ^ 1060 = K
      rw [Int.mul_assoc, Int.mul_assoc, Int.mul_assoc]
      congr 1
      rw [← Int.mul_assoc, ← Int.mul_assoc, Int.mul_comm K b]
    rw [this, hc, split_pow]
    generalize (2 : Int) ^ 1060 = K
    generalize (2 : Int) ^ 14 = T
    rw [Int.neg_mul, Int.mul_neg, Int.mul_comm c T, Int.mul_assoc T c, Int.mul_assoc T, Int.mul_comm (c * K) K, ← Int.mul_assoc T K]
    omega
  unfold Ex
  rwa [Int.zero_mul]
theorem ex_neg {x : UInt64} {a : Int} (hx : Ex x a) : Ex (neg x) (-a) := by
  have := fl_neg hx
  unfold Ex
  rwa [Int.neg_mul]
theorem ex_isZero {x : UInt64} {a : Int} (h : Ex x a) : isZero x = decide (a = 0) := by
  rw [fl_isZero h]
  apply decide_eq_decide.mpr
  constructor
  · intro h0
    exact scale_inj (by rw [h0, Int.zero_mul])
  · intro h0; rw [h0, Int.zero_mul]
theorem ex_cmp {x y : UInt64} {a b : Int} (hx : Ex x a) (hy : Ex y b) : cmp x y = some (compare a b) := by
  rw [fl_cmp hx hy]
  congr 1
  rcases Int.lt_trichotomy a b with h | h | h
  · rw [Int.compare_eq_lt.mpr h, Int.compare_eq_lt.mpr (Int.mul_lt_mul_of_pos_right h scale_pos)]
  · subst h; simp
  · rw [Int.compare_eq_gt.mpr h, Int.compare_eq_gt.mpr (Int.mul_lt_mul_of_pos_right h scale_pos)]
theorem ex_fin {x : UInt64} {a : Int} (h : Ex x a) : isFinite x = true := fl_fin h

theorem nx_real {a : Nm} {m : Int} (h : Nx a m) (hs : Sm m) : Ex a.real m := by
  cases a with
  | i n => have h' : m = n * 2 ^ 14 := h; subst h'; exact ex_ofInt hs
  | f x => exact h
theorem over_big {n : Int} (h : n.natAbs ≤ 2 ^ 53) : ¬ Flt.Over n := by
  intro ho
  have : isInf (ofInt n) = true := Flt.inf_of_over ho
  have hx : Fl (ofInt n) (n * 2 ^ 1074) := fl_ofInt n (rep_pow 1074 _ h (by omega))
  obtain ⟨⟨s, m, e, d⟩, _⟩ := hx
  unfold isInf at this
  rw [d] at this
  cases this
theorem nx_fits {a : Nm} {m : Int} (h : Nx a m) (hs : Sm m) : a.fits := by
  cases a with
  | i n =>
    have h' : m = n * 2 ^ 14 := h
    unfold Sm at hs
    exact over_big (by
      rw [h', Int.natAbs_mul, natAbs_pow] at hs
      have := Nat.le_mul_of_pos_right n.natAbs (Nat.two_pow_pos 14)
      omega)
  | f x => trivial

/-- one part sum at most, and what the part sums add up to -/
def Ps (ps : List UInt64) (S : Int) : Prop := (ps = [] ∧ S = 0) ∨ ∃ p, ps = [p] ∧ Ex p S

theorem add_step {ps : List UInt64} {x : UInt64} {S m : Int} (h : Ps ps S) (hx : Ex x m) (hS : Sm S) (hm : Sm m) (hs : Sm (S + m)) :
    ∃ hi, fsumAdd ps x = ([], hi) ∧ Ex hi (S + m) := by
  rcases h with ⟨rfl, rfl⟩ | ⟨p, rfl, hp⟩
  · exact ⟨x, rfl, by rw [Int.zero_add]; exact hx⟩
  · have key : ∀ a b A B, Ex a A → Ex b B → Sm A → Sm B → A + B = S + m → Ex (add a b) (S + m) ∧ Ex (sub b (sub (add a b) a)) 0 := by
      intro a b A B ha hb hA hB e
      have h1 := ex_add ha hb (by rw [e]; exact hs)
      have h2 := ex_sub h1 ha (by rw [show A + B - A = B by omega]; exact hB)
      rw [show A + B - A = B by omega] at h2
      have h3 := ex_sub hb h2 (by rw [Int.sub_self]; exact sm0)
      rw [Int.sub_self] at h3
      rw [e] at h1
      exact ⟨h1, h3⟩
    simp only [fsumAdd]
    by_cases hl : lt (abs x) (abs p) = true
    · simp only [hl, if_true]
      have := key p x S m hp hx hS hm rfl
      rw [ex_isZero this.2]
      exact ⟨_, rfl, this.1⟩
    · simp only [hl, if_false, Bool.false_eq_true]
      have := key x p m S hx hp hm hS (Int.add_comm _ _)
      rw [ex_isZero this.2]
      exact ⟨_, rfl, this.1⟩
theorem step_ps {ps : List UInt64} {x : UInt64} {S m : Int} (h : Ps ps S) (hx : Ex x m) (hS : Sm S) (hm : Sm m) (hs : Sm (S + m)) :
    isFinite (fsumAdd ps x).2 = true ∧ Ps (fsumStep ps x) (S + m) := by
  obtain ⟨hi, e, he⟩ := add_step h hx hS hm hs
  unfold fsumStep
  rw [e]
  refine ⟨ex_fin he, ?_⟩
  dsimp only
  rw [ex_isZero he]
  by_cases h0 : S + m = 0
  · simp only [h0, decide_true, if_true]; exact .inl ⟨rfl, rfl⟩
  · simp only [h0, decide_false, Bool.false_eq_true, if_false]; exact .inr ⟨hi, rfl, he⟩

def sumI (l : List Int) : Int := l.foldr (· + ·) 0
def sumA (l : List Int) : Nat := l.foldr (fun m n => m.natAbs + n) 0
def Exs : List UInt64 → List Int → Prop
  | [], [] => True
  | x :: xs, m :: ms => Ex x m ∧ Exs xs ms
  | _, _ => False

theorem fold_ps : ∀ (xs : List UInt64) (ms : List Int) (ps : List UInt64) (S : Int), Exs xs ms → Ps ps S → S.natAbs + sumA ms ≤ 2 ^ 53 → fsumOk ps xs ∧ Ps (xs.foldl fsumStep ps) (S + sumI ms)
  | [], [], ps, S, _, h, _ => ⟨trivial, by show Ps ps (S + 0); rwa [Int.add_zero]⟩
  | x :: xs, m :: ms, ps, S, he, h, hb => by
    have hb' : S.natAbs + (m.natAbs + sumA ms) ≤ 2 ^ 53 := hb
    have hst := step_ps h he.1 (by unfold Sm; omega) (by unfold Sm; omega) (by unfold Sm; omega)
    have ih := fold_ps xs ms (fsumStep ps x) (S + m) he.2 hst.2 (by omega)
    refine ⟨⟨hst.1, ih.1⟩, ?_⟩
    show Ps _ (S + (m + sumI ms))
    rw [← Int.add_assoc]
    exact ih.2
  | [], _ :: _, _, _, he, _, _ => he.elim
  | _ :: _, [], _, _, he, _, _ => he.elim

theorem fsum_ex {xs : List UInt64} {ms : List Int} (he : Exs xs ms) (hb : sumA ms ≤ 2 ^ 53) : fsumOk [] xs ∧ Ex (fsumP xs) (sumI ms) := by
  have h := fold_ps xs ms [] 0 he (.inl ⟨rfl, rfl⟩) (by simpa using hb)
  refine ⟨h.1, ?_⟩
  have h2 := h.2
  rw [Int.zero_add] at h2
  unfold fsumP fsumFold
  rcases h2 with ⟨e, e2⟩ | ⟨p, e, hp⟩
  · rw [e, e2]; exact ex_zero _
  · rw [e]; exact hp

theorem dlSum_ex {a b : UInt64} {A B : Int} (ha : Ex a A) (hb : Ex b B) (hA : Sm A) (hB : Sm B) (hs : Sm (A + B)) : Ex (Builtin.Math.dlSum a b).1 (A + B) ∧ Ex (Builtin.Math.dlSum a b).2 0 := by
  have h1 := ex_add ha hb hs
  have h2 := ex_sub h1 ha (by rw [show A + B - A = B by omega]; exact hB)
  rw [show A + B - A = B by omega] at h2
  have h3 := ex_sub h1 h2 (by rw [show A + B - B = A by omega]; exact hA)
  rw [show A + B - B = A by omega] at h3
  have h4 := ex_sub ha h3 (by rw [Int.sub_self]; exact sm0)
  rw [Int.sub_self] at h4
  have h5 := ex_sub hb h2 (by rw [Int.sub_self]; exact sm0)
  rw [Int.sub_self] at h5
  have h6 := ex_add h4 h5 sm0
  exact ⟨h1, h6⟩
theorem dlMul_ex {x y : UInt64} {a b c : Int} (hx : Ex x a) (hy : Ex y b) (hc : a * b = c * 2 ^ 14) (hs : Sm c) : Ex (Builtin.Math.dlMul x y).1 c ∧ Ex (Builtin.Math.dlMul x y).2 0 := by
  have h1 := ex_mul hx hy hc hs
  exact ⟨h1, ex_fma0 hx hy (ex_neg h1) hc⟩

def Tri (t : UInt64 × UInt64 × UInt64) (S : Int) : Prop := Ex t.1 S ∧ Ex t.2.1 0 ∧ Ex t.2.2 0
theorem tri_zero : Tri zero3 0 := ⟨ex_zero _, ex_zero _, ex_zero _⟩
theorem tri_step {t : UInt64 × UInt64 × UInt64} {x y : UInt64} {S a b c : Int} (h : Tri t S) (hx : Ex x a) (hy : Ex y b) (hc : a * b = c * 2 ^ 14) (hS : Sm S) (hs : Sm c) (ht : Sm (S + c)) :
    Tri (Builtin.Math.tlFma x y t) (S + c) := by
  obtain ⟨h1, h2, h3⟩ := h
  have m := dlMul_ex hx hy hc hs
  have s := dlSum_ex h1 m.1 hS hs ht
  have r1 := dlSum_ex h2 m.2 sm0 sm0 sm0
  have r2 := dlSum_ex r1.1 s.2 sm0 sm0 sm0
  exact ⟨s.1, r2.1, ex_add (ex_add h3 r1.2 sm0) r2.2 sm0⟩
/-- pairs of floats, and the products of what they are -/
def Prs : List (UInt64 × UInt64) → List Int → Prop
  | [], [] => True
  | p :: ps, c :: cs => (∃ a b, Ex p.1 a ∧ Ex p.2 b ∧ a * b = c * 2 ^ 14) ∧ Prs ps cs
  | _, _ => False
theorem tri_fold : ∀ (ps : List (UInt64 × UInt64)) (cs : List Int) (t : UInt64 × UInt64 × UInt64) (S : Int), Prs ps cs → Tri t S → S.natAbs + sumA cs ≤ 2 ^ 53 → triOk t ps ∧ Tri (triFold t ps) (S + sumI cs)
  | [], [], t, S, _, h, _ => ⟨trivial, by show Tri t (S + 0); rwa [Int.add_zero]⟩
  | p :: ps, c :: cs, t, S, he, h, hb => by
    have hb' : S.natAbs + (c.natAbs + sumA cs) ≤ 2 ^ 53 := hb
    obtain ⟨⟨a, b, ha, hb2, hc⟩, hr⟩ := he
    have hst := tri_step h ha hb2 hc (by unfold Sm; omega) (by unfold Sm; omega) (by unfold Sm; omega)
    have ih := tri_fold ps cs _ (S + c) hr hst (by omega)
    refine ⟨⟨ex_fin hst.1, ih.1⟩, ?_⟩
    show Tri _ (S + (c + sumI cs))
    rw [← Int.add_assoc]
    exact ih.2
  | [], _ :: _, _, _, he, _, _ => he.elim
  | _ :: _, [], _, _, he, _, _ => he.elim
theorem sumI_le : ∀ (l : List Int), (sumI l).natAbs ≤ sumA l
  | [] => Nat.le_refl _
  | m :: ms => by
    have := sumI_le ms
    show (m + sumI ms).natAbs ≤ m.natAbs + sumA ms
    omega
theorem sprod_ex {ps : List (UInt64 × UInt64)} {cs : List Int} (he : Prs ps cs) (hne : ps ≠ []) (hb : sumA cs ≤ 2 ^ 53) : triOk zero3 ps ∧ ∃ r, sprodF ps = .f r ∧ Ex r (sumI cs) := by
  have h := tri_fold ps cs zero3 0 he tri_zero (by simpa using hb)
  refine ⟨h.1, ?_⟩
  have h2 := h.2
  rw [Int.zero_add] at h2
  have hsm : Sm (sumI cs) := Nat.le_trans (sumI_le cs) hb
  have hf : sprodF ps = .f (add (ofInt 0) (Builtin.Math.tlToFloat (triFold zero3 ps))) := by
    cases ps with
    | nil => exact absurd rfl hne
    | cons p ps => rfl
  refine ⟨_, hf, ?_⟩
  obtain ⟨h1, h2, h3⟩ := h2
  have l := dlSum_ex h2 h1 sm0 hsm (by rwa [Int.zero_add])
  rw [Int.zero_add] at l
  have t := ex_add (ex_add h3 l.2 sm0) l.1 (by rwa [Int.add_zero, Int.zero_add])
  rw [Int.add_zero, Int.zero_add] at t
  have z : Ex (ofInt 0) 0 := by
    have := ex_ofInt (n := 0) (by rw [Int.zero_mul]; exact sm0)
    rwa [Int.zero_mul] at this
  have f := ex_add z t (by rwa [Int.zero_add])
  rwa [Int.zero_add] at f
end Mine
end
theorem Mine.anewX3 : True := by
  w_top off
  exact trivial
section
open PySem PySem.W PySem.Calls PyProof.Rows PySem.Float64
set_option Elab.async false
set_option maxRecDepth 100000
set_option linter.unusedVariables false
set_option exponentiation.threshold 3000
namespace Mine
section
variable {prog : Program} {w : World} {A : Around} {E : Value → Shared → Prop} {s : Shared} {t u : Tok} {Q : Value → Shared → Prop} {x y : UInt64} {a b c n : Int}

theorem sm_int {n : Int} (h : Sm (n * 2 ^ 14)) : n.natAbs ≤ 2 ^ 53 := by
  unfold Sm at h
  rw [Int.natAbs_mul, natAbs_pow] at h
  have := Nat.le_mul_of_pos_right n.natAbs (Nat.two_pow_pos 14)
  omega
theorem small_int {n : Int} (h : Sm (n * 2 ^ 14)) : ¬ 2 ^ 1024 - 2 ^ 970 ≤ n.natAbs := by
  have h1 := sm_int h
  have h2 : (2 : Nat) ^ 53 < 2 ^ 1024 - 2 ^ 970 := by
    have e : (2 : Nat) ^ 1024 = 2 ^ 54 * 2 ^ 970 := by rw [← Nat.pow_add]
    have k : (2 : Nat) ^ 53 < 2 ^ 970 := Nat.pow_lt_pow_right (by decide) (by decide)
    rw [e]
    generalize (2 : Nat) ^ 970 = K at *
    omega
  omega
theorem ox_sub_ff (hx : Ex x a) (hy : Ex y b) (hs : Sm (a - b)) (h : ∀ r tk, Ex r (a - b) → Q (.float r tk) { s with toks := s.toks + 1 }) : wpAny (model prog w) A (binaryOp .Sub (.float x t) (.float y u)) Q E s :=
  AutoFloatOps.sub_0 (h _ _ (ex_sub hx hy hs))
theorem ox_sub_if (hA : A.handled = none) (hn : Sm (n * 2 ^ 14)) (hy : Ex y b) (hs : Sm (n * 2 ^ 14 - b)) (h : ∀ r tk, Ex r (n * 2 ^ 14 - b) → Q (.float r tk) { s with toks := s.toks + 1 }) : wpAny (model prog w) A (binaryOp .Sub (.int n t) (.float y u)) Q E s :=
  sub_if_sharp hA (fun q => absurd q (small_int hn)) fun _ => h _ _ (ex_sub (ex_ofInt hn) hy hs)
theorem ox_sub_nf {v : Value} {k : Nm} (hA : A.handled = none) (hv : NmIs v k) (hk : Nx k a) (ha : Sm a) (hy : Ex y b) (hs : Sm (a - b)) (h : ∀ r tk, Ex r (a - b) → Q (.float r tk) { s with toks := s.toks + 1 }) : wpAny (model prog w) A (binaryOp .Sub v (.float y u)) Q E s := by
  cases k with
  | i n =>
    obtain ⟨t, rfl⟩ := hv
    have h' : a = n * 2 ^ 14 := hk
    subst h'
    exact ox_sub_if hA ha hy hs h
  | f x =>
    obtain ⟨t, rfl⟩ := hv
    exact ox_sub_ff hk hy hs h
theorem ox_add_ff (hx : Ex x a) (hy : Ex y b) (hs : Sm (a + b)) (h : ∀ r tk, Ex r (a + b) → Q (.float r tk) { s with toks := s.toks + 1 }) : wpAny (model prog w) A (binaryOp .Add (.float x t) (.float y u)) Q E s :=
  AutoFloatOps.add_0 (h _ _ (ex_add hx hy hs))
theorem ox_iadd_ff (hx : Ex x a) (hy : Ex y b) (hs : Sm (a + b)) (h : ∀ r tk, Ex r (a + b) → Q (.float r tk) { s with toks := s.toks + 1 }) : wpAny (model prog w) A (inplaceOp .Add (.float x t) (.float y u)) Q E s :=
  AutoFloatOps.iadd_0 (h _ _ (ex_add hx hy hs))
theorem ox_iadd_if (hA : A.handled = none) (hn : Sm (n * 2 ^ 14)) (hy : Ex y b) (hs : Sm (n * 2 ^ 14 + b)) (h : ∀ r tk, Ex r (n * 2 ^ 14 + b) → Q (.float r tk) { s with toks := s.toks + 1 }) : wpAny (model prog w) A (inplaceOp .Add (.int n t) (.float y u)) Q E s :=
  Flt.iadd_if hA (fun q => absurd q (over_big (sm_int hn))) fun _ => h _ _ (ex_add (ex_ofInt hn) hy hs)
theorem ox_iadd_nf {v : Value} {k : Nm} (hA : A.handled = none) (hv : NmIs v k) (hk : Nx k a) (ha : Sm a) (hy : Ex y b) (hs : Sm (a + b)) (h : ∀ r tk, Ex r (a + b) → Q (.float r tk) { s with toks := s.toks + 1 }) : wpAny (model prog w) A (inplaceOp .Add v (.float y u)) Q E s := by
  cases k with
  | i n =>
    obtain ⟨t, rfl⟩ := hv
    have h' : a = n * 2 ^ 14 := hk
    subst h'
    exact ox_iadd_if hA ha hy hs h
  | f x =>
    obtain ⟨t, rfl⟩ := hv
    exact ox_iadd_ff hk hy hs h
theorem ox_add_fi (hA : A.handled = none) (hx : Ex x a) (hn : Sm (n * 2 ^ 14)) (hs : Sm (a + n * 2 ^ 14)) (h : ∀ r tk, Ex r (a + n * 2 ^ 14) → Q (.float r tk) { s with toks := s.toks + 1 }) : wpAny (model prog w) A (binaryOp .Add (.float x t) (.int n u)) Q E s :=
  add_fi_sharp hA (fun q => absurd q (small_int hn)) fun _ => h _ _ (ex_add hx (ex_ofInt hn) hs)
theorem ox_mul_if (hA : A.handled = none) (hn : Sm (n * 2 ^ 14)) (hy : Ex y b) (hs : Sm (n * b)) (h : ∀ r tk, Ex r (n * b) → Q (.float r tk) { s with toks := s.toks + 1 }) : wpAny (model prog w) A (binaryOp .Mult (.int n t) (.float y u)) Q E s :=
  mul_if_sharp hA (fun q => absurd q (small_int hn)) fun _ => h _ _ (ex_mul (ex_ofInt hn) hy (by rw [Int.mul_assoc, Int.mul_comm (2 ^ 14) b, ← Int.mul_assoc]) hs)
theorem ox_mul_fi (hA : A.handled = none) (hx : Ex x a) (hn : Sm (n * 2 ^ 14)) (hs : Sm (a * n)) (h : ∀ r tk, Ex r (a * n) → Q (.float r tk) { s with toks := s.toks + 1 }) : wpAny (model prog w) A (binaryOp .Mult (.float x t) (.int n u)) Q E s :=
  mul_fi_sharp hA (fun q => absurd q (small_int hn)) fun _ => h _ _ (ex_mul hx (ex_ofInt hn) (Int.mul_assoc _ _ _).symm hs)
theorem ox_div_fi (hA : A.handled = none) (hx : Ex x a) (hn : Sm (n * 2 ^ 14)) (h0 : n ≠ 0) (hc : a = c * n) (hs : Sm c) (h : ∀ r tk, Ex r c → Q (.float r tk) { s with toks := s.toks + 1 }) : wpAny (model prog w) A (binaryOp .Div (.float x t) (.int n u)) Q E s :=
  Flt.truediv_fi hA (fun q => absurd q (over_big (sm_int hn))) (fun q => absurd q h0) fun _ _ => h _ _ (ex_div hx (ex_ofInt hn) h0 hc hs)
/-- a whole number divided by a power of two -/
theorem ox_div_ii {k : Nat} (hA : A.handled = none) (hn : Sm (n * 2 ^ (14 - k))) (hk : k ≤ 14) (h : ∀ r tk, Ex r (n * 2 ^ (14 - k)) → Q (.float r tk) { s with toks := s.toks + 1 }) : wpAny (model prog w) A (binaryOp .Div (.int n t) (.int (2 ^ k) u)) Q E s := by
  have hb : (2 : Int) ^ k ≠ 0 := by rw [← pow_cast]; have := Nat.two_pow_pos k; omega
  have hpos : (0 : Int) < 2 ^ k := by rw [← pow_cast]; have := Nat.two_pow_pos k; omega
  refine Flt.div_ii_fits hA ?_ (fun q => absurd q hb) fun _ _ => h _ _ ?_
  · unfold Sm at hn
    rw [Int.natAbs_mul, natAbs_pow] at hn
    have h1 := Nat.le_mul_of_pos_right n.natAbs (Nat.two_pow_pos (14 - k))
    have h2 : (2 : Nat) ^ 53 < 2 ^ 1023 := Nat.pow_lt_pow_right (by decide) (by decide)
    omega
  · have hneg : (decide (n < 0) != decide ((2 : Int) ^ k < 0)) = decide (n < 0) := by
      have : decide ((2 : Int) ^ k < 0) = false := decide_eq_false (by omega)
      rw [this]; simp
    rw [hneg, natAbs_pow]
    have hr := rep_sm hn
    have key := right_exact (ofFrac_right (neg := decide (n < 0)) (n := n.natAbs) (d := 2 ^ k) (W := n.natAbs * 2 ^ 1074) (D := 2 ^ k) (Nat.two_pow_pos k) rfl (Nat.two_pow_pos k)) (Nat.two_pow_pos k) (X := (n * 2 ^ (14 - k) * 2 ^ 1060).natAbs) (by
      rw [Int.natAbs_mul, Int.natAbs_mul, natAbs_pow, natAbs_pow]
      have e : (2 : Nat) ^ 1074 = 2 ^ k * 2 ^ (14 - k) * 2 ^ 1060 := by rw [← Nat.pow_add, ← Nat.pow_add]; congr 1; omega
      rw [e]
      generalize (2 : Nat) ^ k = P
      generalize (2 : Nat) ^ (14 - k) = R
      generalize (2 : Nat) ^ 1060 = K
      ac_rfl) hr
    have e2 : sgn (decide (n < 0)) (n * 2 ^ (14 - k) * 2 ^ 1060).natAbs = n * 2 ^ (14 - k) * 2 ^ 1060 := by
      rw [Int.mul_assoc, ← Int.pow_add, Int.natAbs_mul, natAbs_pow, sgn_mul, sgn_natAbs_self, pow_cast]
    rw [e2] at key
    exact key
theorem cmp_ne (hx : Ex x a) (hy : Ex y b) : (cmp x y != some Ordering.eq) = decide (a ≠ b) := by
  rw [ex_cmp hx hy]
  by_cases h : a = b
  · subst h; simp
  · have : compare a b ≠ .eq := fun q => h (Int.compare_eq_eq.mp q)
    simp [h, this]
theorem cmp_eqb (hx : Ex x a) (hy : Ex y b) : (cmp x y == some Ordering.eq) = decide (a = b) := by
  rw [ex_cmp hx hy]
  by_cases h : a = b
  · subst h; simp
  · have : compare a b ≠ .eq := fun q => h (Int.compare_eq_eq.mp q)
    simp [h, this]
theorem ox_ne_ff (hx : Ex x a) (hy : Ex y b) (h : Q (.bool (decide (a ≠ b))) s) : wpAny (model prog w) A (compareOp .NotEq (.float x t) (.float y u)) Q E s :=
  AutoFloatOps.ne_0 (by rw [cmp_ne hx hy]; exact h)
theorem ox_eq_ff (hx : Ex x a) (hy : Ex y b) (h : Q (.bool (decide (a = b))) s) : wpAny (model prog w) A (compareOp .Eq (.float x t) (.float y u)) Q E s :=
  AutoFloatOps.eq_0 (by rw [cmp_eqb hx hy]; exact h)
end

/-- values that are numbers of known worth -/
def VxAre (vs : List Value) (xs : List Nm) (ms : List Int) : Prop := NmsAre vs xs ∧ xs.length = ms.length ∧ ∀ (i : Nat) x, xs[i]? = some x → ∃ m, ms[i]? = some m ∧ Nx x m
theorem exs_of : ∀ (xs : List Nm) (ms : List Int), xs.length = ms.length → (∀ (i : Nat) x, xs[i]? = some x → ∃ m, ms[i]? = some m ∧ Nx x m) → sumA ms ≤ 2 ^ 53 → Exs (xs.map Nm.real) ms ∧ ∀ a ∈ xs, a.fits
  | [], [], _, _, _ => ⟨trivial, fun _ h => by cases h⟩
  | x :: xs, m :: ms, hl, h, hb => by
    have hb' : m.natAbs + sumA ms ≤ 2 ^ 53 := hb
    obtain ⟨m', e, hx⟩ := h 0 x rfl
    cases e
    have hs : Sm m := by unfold Sm; omega
    have ih := exs_of xs ms (by simpa using hl) (fun i x hx => h (i + 1) x (by simpa using hx)) (by omega)
    refine ⟨⟨nx_real hx hs, ih.1⟩, fun a ha => ?_⟩
    rcases List.mem_cons.mp ha with rfl | ha
    · exact nx_fits hx hs
    · exact ih.2 a ha
  | [], _ :: _, hl, _, _ => by simp at hl
  | _ :: _, [], hl, _, _ => by simp at hl
section
variable {prog : Program} {w : World} {A : Around} {E : Value → Shared → Prop} {s : Shared} {Q : Value → Shared → Prop}
/-- the sum of a list of exact numbers -/
theorem vx_fsum {l : Addr} {vs : List Value} {xs : List Nm} {ms : List Int} (hA : A.handled = none) (hl : s.heap.IsList l vs.toArray) (hv : VxAre vs xs ms) (hb : sumA ms ≤ 2 ^ 53) (hlen : xs.length < sizeLine)
    (h : ∀ h' tk r t, Ex r (sumI ms) → (∀ b o, s.heap.get? b = some o → h'.get? b = some o) → Q (.float r t) { s with heap := h', toks := tk }) :
    wpAny (model prog w) A (call (.builtin "math.fsum") [.ref l]) Q E s := by
  obtain ⟨h1, h2⟩ := exs_of xs ms hv.2.1 hv.2.2 hb
  obtain ⟨ok, hr⟩ := fsum_ex h1 hb
  exact fsum_src hA (.list hl) hv.1 h2 hlen ok fun h' tk t hk => h h' tk _ t hr fun b o e => hk b o (by simp) e
end
end Mine
end
theorem Mine.anewG1 : True := by
  w_top off
  exact trivial
section
open PySem PySem.W PySem.Calls PyProof.Rows
set_option Elab.async false
set_option maxRecDepth 100000
set_option linter.unusedVariables false
namespace Mine

def GBare (a b : Array GenState) : Prop := (∀ y ∈ a, y.bare = true) → ∀ y ∈ b, y.bare = true
/-- a code's table of inner codes -/
def Tab (h : Heap) (c P : Addr) : Prop := ∃ ps, h.IsCode c P ps ∧ h.TableAt c P ps
theorem Tab.at {h h' : Heap} {c P : Addr} (x : Tab h c P) (hc : ∀ o, h.get? c = some o → h'.get? c = some o) (hP : ∀ o, h.get? P = some o → h'.get? P = some o) : Tab h' c P := by
  obtain ⟨ps, ⟨o, vs, file, tf, flags, tg, inF, text, tt, op, a, r1, r2, r3, r4, r5, r6, b, r⟩, ⟨⟨o2, vs2, a2, r7⟩, b2⟩⟩ := x
  exact ⟨ps, ⟨o, vs, file, tf, flags, tg, inF, text, tt, op, hc _ a, r1, r2, r3, r4, r5, r6, hP _ b, r⟩, ⟨⟨o2, vs2, hc _ a2, r7⟩, hP _ b2⟩⟩
theorem Tab.keeps {h h' : Heap} {c P : Addr} (x : Tab h c P) (k : ∀ b o, h.get? b = some o → h'.get? b = some o) : Tab h' c P := x.at (fun _ e => k _ _ e) fun _ e => k _ _ e
theorem Tab.there {h : Heap} {c P : Addr} (x : Tab h c P) : ∃ o, h.get? P = some o := let ⟨_, _, _, h⟩ := x; ⟨_, h⟩
theorem Tab.code {h : Heap} {c P : Addr} (x : Tab h c P) : ∃ o, h.get? c = some o := let ⟨_, ⟨o, _, _, _, _, _, _, _, _, _, h, _⟩, _⟩ := x; ⟨o, h⟩
theorem Tab.ne {h : Heap} {c P : Addr} (x : Tab h c P) : c ≠ P := let ⟨_, ⟨_, _, _, _, _, _, _, _, _, _, _, _, _, _, _, _, _, _, _, _, h⟩, _⟩ := x; h
theorem Tab.cls {h : Heap} {c P : Addr} (x : Tab h c P) : ∃ ps, h.get? P = some { cls := .none, data := .fields ps } := let ⟨ps, _, _, h⟩ := x; ⟨ps, h⟩

section
variable {prog : Program} {w : World} {A : Around} {E : Value → Shared → Prop} {s s' : Shared}
theorem gcode {env : Env} {c P : Addr} {pos : Pos} {qualname : Str} {scope : Scope} {Q : Value → Shared → Prop} (hc : env.code = .ref c) (hok : Tab s.heap c P)
    (hQ : ∀ code h' tk, Heap.ExtBut P s.heap h' → Tab h' c P → Q code { s with heap := h', toks := tk }) :
    wpAny (model prog w) A (genexprCode env pos qualname scope) Q E s := by
  obtain ⟨ps, ok, tab⟩ := hok
  cases hnf : codeAmong pos ps.toList with
  | some cv => exact wpAny_genexprCode_hit hc ok hnf (hQ cv s.heap s.toks (Heap.ExtBut.refl _ _) ⟨ps, ok, tab⟩)
  | none => exact wpAny_genexprCodeX hc ok tab hnf fun c' h' tk x _ _ i _ t _ => hQ _ h' tk x ⟨_, i, t⟩

theorem GenAt.moved {a g g2 C : Nat} {fp wr wr2 : List Addr} {pz : Nat → Bool} {n₀ j : Nat} {F : Nat → Value → Prop} (st : GenAt prog w A a g C fp wr pz n₀ F j s) (hm : Moved wr2 (GenOnlyQ g2) s s') (hg : g ≠ g2)
    (hd : ∀ b ∈ wr2, b ≠ a ∧ b ≠ C ∧ b ∉ fp) (hcs : cStatics ∈ fp) : GenAt prog w A a g C fp wr pz n₀ F j s' := by
  obtain ⟨h1, h2, gs, h3, h4⟩ := st
  have kp : ∀ b, b = a ∨ b = C ∨ b ∈ fp → ∀ o, s.heap.get? b = some o → s'.heap.get? b = some o := fun b hb o e => hm.heap b o (fun q => by
    have := hd b q
    rcases hb with hb | hb | hb
    · exact this.1 hb
    · exact this.2.1 hb
    · exact this.2.2 hb) e
  refine ⟨?_, ?_, gs, ?_, fun s'' hk => h4 s'' fun b hb o e => hk b hb o (kp b (by
    rcases List.mem_cons.mp hb with hb | hb
    · exact .inr (.inl hb)
    · exact .inr (.inr hb)) o e)⟩
  · obtain ⟨o, nm, qn, ho, r⟩ := h1
    exact ⟨o, nm, qn, kp a (.inl rfl) o ho, r⟩
  · obtain ⟨mc, hns, hnn⟩ := h2
    exact ⟨mc, hns.at' fun o e => kp cStatics (.inr (.inr hcs)) o e, hnn⟩
  · rcases hm.gens with e | ⟨e, _⟩
    · rw [e]; exact h3
    · rw [e.2 g hg]; exact h3

theorem moved_bare {wr wr' : List Addr} {g : Nat} (x : Moved wr (GenOnlyQ g) s s') (h : ∀ b ∈ wr, b ∈ wr') : Moved wr' GBare s s' :=
  ⟨fun b o hb e => x.heap b o (fun q => hb (h b q)) e, fun ha => x.gens.bare ha, x.drawn, x.os, x.toks⟩
theorem gbare_refl (a : Array GenState) : GBare a a := fun h => h
theorem gbare_trans (a b c : Array GenState) (x : GBare a b) (y : GBare b c) : GBare a c := fun h => y (x h)

/-- two generators side by side -/
theorem Two.of_gens {I J : Addr} {fp1 fp2 wr1 wr2 : List Addr} {n1 n2 g1 g2 : Nat} {P1 P2 : Nat → Value → Prop} {St1 St2 : Nat → Shared → Prop} (W1 : WalksS prog w A I fp1 wr1 (GenOnlyQ g1) n1 P1 St1) (W2 : WalksS prog w A J fp2 wr2 (GenOnlyQ g2) n2 P2 St2)
    (x12 : ∀ i s s', St2 i s → Moved wr1 (GenOnlyQ g1) s s' → St2 i s') (x21 : ∀ i s s', St1 i s → Moved wr2 (GenOnlyQ g2) s s' → St1 i s') :
    Two prog w A I J (fp1 ++ fp2) (wr1 ++ wr2) GBare n1 n2 P1 P2 (fun i j s => St1 i s ∧ St2 j s) where
  sub := fun b hb => by
    rcases List.mem_append.mp hb with hb | hb
    · exact List.mem_append_left _ (W1.sub b hb)
    · exact List.mem_append_right _ (W2.sub b hb)
  grefl := gbare_refl
  gtrans := gbare_trans
  frame := fun i j s h' tk st ht hk => ⟨W1.frame i _ _ _ st.1 ht fun b hb => hk b (List.mem_append_left _ hb), W2.frame j _ _ _ st.2 ht fun b hb => hk b (List.mem_append_right _ hb)⟩
  both := fun i s Q E hi st hQ => W1.item i s _ _ hi st.1 fun v s' hP st1 hm => by
    have m1 : Moved (wr1 ++ wr2) GBare s s' := moved_bare hm fun b hb => List.mem_append_left _ hb
    have st2 := x12 i s s' st.2 hm
    refine hQ v _ hP m1 fun Q' E' g1 g2 hle => ?_
    rcases Nat.lt_or_ge i n2 with hlt | hge
    · exact W2.item i _ _ _ hlt st2 fun u s'' hu st2' hm2 => g1 hlt u _ hu ⟨x21 _ _ _ st1 hm2, st2'⟩ (Moved.trans gbare_trans m1 (moved_bare hm2 fun b hb => List.mem_append_right _ hb))
    · have he : i = n2 := Nat.le_antisymm hle hge
      subst he
      exact W2.done _ _ _ st2 fun s'' hm2 => g2 rfl _ (Moved.trans gbare_trans m1 (moved_bare hm2 fun b hb => List.mem_append_right _ hb))
  last := fun s Q E st hQ => W1.done s _ _ st.1 fun s' hm => by
    have m1 : Moved (wr1 ++ wr2) GBare s s' := moved_bare hm fun b hb => List.mem_append_left _ hb
    have st2 := x12 _ s s' st.2 hm
    refine hQ _ m1 fun Q' E' g1 g2 hle => ?_
    rcases Nat.lt_or_ge n1 n2 with hlt | hge
    · exact W2.item n1 _ _ _ hlt st2 fun u s'' hu _ hm2 => g1 hlt u _ hu (Moved.trans gbare_trans m1 (moved_bare hm2 fun b hb => List.mem_append_right _ hb))
    · have he : n1 = n2 := Nat.le_antisymm hle hge
      subst he
      exact W2.done _ _ _ st2 fun s'' hm2 => g2 rfl _ (Moved.trans gbare_trans m1 (moved_bare hm2 fun b hb => List.mem_append_right _ hb))

theorem passing_yes (n : Nat) : passing (fun _ => true) n 0 = List.range n := by
  unfold passing
  rw [List.drop_zero]
  simp

/-- what is known of a generator that was just made -/
structure Gened (prog : Program) (w : World) (A : Around) (P : Addr) (s₀ s₁ : Shared) (a C I l : Addr) (fpx : List Addr) (n : Nat) (F : Nat → Value → Prop) : Prop where
  kept : ∀ b o, b ≠ P → s₀.heap.get? b = some o → s₁.heap.get? b = some o
  na : s₀.heap.objs.size ≤ a
  nC : s₀.heap.objs.size ≤ C
  nI : s₀.heap.objs.size ≤ I
  hP : P < s₀.heap.objs.size
  aC : a ≠ C
  aI : a ≠ I
  CI : C ≠ I
  la : a < s₁.heap.objs.size
  lC : C < s₁.heap.objs.size
  lI : I < s₁.heap.objs.size
  gens : ∃ gs, GenState.bare gs = true ∧ s₁.gens = s₀.gens.push gs
  drawn : s₁.drawn = s₀.drawn
  os : s₁.os = s₀.os
  walks : WalksS prog w A.in4 a (a :: C :: cStatics :: I :: l :: fpx) (C :: [I]) (GenOnlyQ s₀.gens.size) n F (GenAt prog w A.in4 a s₀.gens.size C (cStatics :: I :: l :: fpx) [I] (fun _ => true) n F)
  at0 : GenAt prog w A.in4 a s₀.gens.size C (cStatics :: I :: l :: fpx) [I] (fun _ => true) n F 0 s₁
  olds : ∀ b ∈ cStatics :: l :: fpx, b ≠ P ∧ b < s₀.heap.objs.size

/-- a generator expression over a list is made -/
theorem gen_new {env : Env} {elt iter : Expr} {x : Str} {px : Pos} {scope : Scope} {cl : List (Str × Addr)} {pos : Pos} {Q : Value → Shared → Prop} {l c P : Addr} {vs : List Value} {fpx : List Addr} {F : Nat → Value → Prop}
    (hh : A.handled = none) (hroom : A.depth < recursionLimit) (hiter : ∀ Q' : Value → Shared → Prop, Q' (.ref l) s → wpAny (model prog w) A (eval iter env) Q' E s) (hl : s.heap.IsList l vs.toArray) (hlP : l ≠ P) (hlim : s.heap.NoLimit) (hPc : P ≠ cStatics)
    (hcode : env.code = .ref c) (htab : Tab s.heap c P)
    (hbi : ∀ (s₃ : Shared) (Q' : Addr → Shared → Prop), (∀ b o, b ≠ P → s.heap.get? b = some o → s₃.heap.get? b = some o) → Q' builtinsNs s₃ → wpAny (model prog w) A (builtinsFor env.globals env.builtins) Q' E s₃)
    (hfp : ∀ b ∈ fpx, b ≠ P ∧ ∃ o, s.heap.get? b = some o)
    (helt : ∀ (A' : Around) E' C code bi i v (t : Shared) m₂, A'.handled = none → vs[i]? = some v → t.heap.Ns C m₂ → m₂ x = some v → (∀ b ∈ fpx, ∀ o, s.heap.get? b = some o → t.heap.get? b = some o) →
      wpAny (model prog w) A' (eval elt (genEnv scope cl C code bi env)) (fun y s₃ => F i y ∧ Keeps t s₃) E' t)
    (h : ∀ a C I h' gs tk, Gened prog w A P s { s with gens := s.gens.push gs, toks := tk, heap := h' } a C I l fpx vs.length F → Tab h' c P → Q (.ref a) { s with gens := s.gens.push gs, toks := tk, heap := h' })
    (hco : scope.isCoroutine = false := by rfl) (hclos : closureFor scope env = pure cl := by rfl) (hcell : ∀ y ∈ scope.names, y.2 ≠ .cell := by decide) (h0 : scope.names.lookup (".0" : Str) = some NameKind.local := by rfl)
    (hx : scope.names.lookup x = some .local := by rfl) (hkind : scope.kind = .function := by rfl) (hs : ∀ x, genFold iter env x = pure x := by intro _; rfl) :
    wpAny (model prog w) A (eval (.GeneratorExp elt [⟨.Name x px, iter, [], 0⟩] scope pos) env) Q E s := by
  have hlt : l < s.heap.objs.size := by obtain ⟨_, e, _⟩ := hl; exact Heap.lt_size e
  have hclt : cStatics < s.heap.objs.size := let ⟨_, hn, _⟩ := hlim; hn.lt
  obtain ⟨oP, heP⟩ := htab.there
  have hPlt : P < s.heap.objs.size := Heap.lt_size heP
  refine wpAny_GeneratorExp_make hco hclos hcell h0 hkind hroom (hiter _ (wpAny_pyIter_list hl ⟨hlim.push _, ?_⟩)) hs
  refine gcode (s := { s with heap := s.heap.push { cls := .type "list_iterator", data := .fields #[.ref l, .int 0 0] } }) hcode (htab.keeps fun _ _ e => Heap.get?_push_of_some _ e) fun code h₃ tk₃ x₃ t₃ => ?_
  have k₃ : ∀ b o, b ≠ P → s.heap.get? b = some o → h₃.get? b = some o := fun b o hb e => x₃ b o hb (Heap.get?_push_of_some _ e)
  have hI₃ : h₃.get? s.heap.objs.size = some { cls := .type "list_iterator", data := .fields #[.ref l, .int 0 0] } := x₃ _ _ (Nat.ne_of_gt hPlt) (Heap.get?_push_size _ rfl)
  have hIlt : s.heap.objs.size < h₃.objs.size := Heap.lt_size hI₃
  refine hbi _ _ k₃ ?_
  intro h' hn' hs'
  dsimp only at hn' hs' ⊢
  have hsz : h'.objs.size = h₃.objs.size + 1 := by rw [hs'.1, Heap.size_push]
  have keep' : ∀ b o, h₃.get? b = some o → h'.get? b = some o := fun b o e => hs'.extBut b o (Nat.ne_of_lt (Heap.lt_size e)) (Heap.get?_push_of_some _ e)
  have k5 : ∀ b o, h₃.get? b = some o → (h'.push { cls := .type "generator", data := .fields #[.int s.gens.size 0, .str "<genexpr>" (tk₃ + 1), .str (env.qual ++ "<genexpr>") (tk₃ + 1 + 1)] }).get? b = some o :=
    fun b o e => Heap.get?_push_of_some _ (keep' b o e)
  have none_ge : ∀ b, s.heap.objs.size ≤ b → s.heap.get? b = none := fun b hb => Heap.get?_none_of_le hb
  have hlim₃ : h₃.NoLimit := by
    obtain ⟨mc, hns, hnn⟩ := hlim
    exact ⟨mc, hns.at' fun o e => k₃ _ o (Ne.symm hPc) e, hnn⟩
  have haC : h'.objs.size ≠ h₃.objs.size := by omega
  have haI : h'.objs.size ≠ s.heap.objs.size := by omega
  have hfpl : ∀ b ∈ cStatics :: s.heap.objs.size :: l :: fpx, b < h₃.objs.size := fun b hb => by
    rcases List.mem_cons.mp hb with rfl | hb
    · exact Nat.lt_trans hclt hIlt
    rcases List.mem_cons.mp hb with rfl | hb
    · exact hIlt
    rcases List.mem_cons.mp hb with rfl | hb
    · exact Nat.lt_trans hlt hIlt
    · obtain ⟨_, o, e⟩ := hfp b hb
      exact Nat.lt_trans (Heap.lt_size e) hIlt
  have h3lt : h₃.objs.size < h'.objs.size := by rw [hsz]; exact Nat.lt_succ_self _
  have hl₃ : h₃.IsList l vs.toArray := hl.at fun o e => k₃ _ o hlP e
  have W := WalksS.genexpQ (prog := prog) (w := w) (A := A.in4) hh h'.objs.size s.gens.size h₃.objs.size (cStatics :: s.heap.objs.size :: l :: fpx) [s.heap.objs.size] (fun _ => true) vs.length F haC
    (fun hm => Nat.lt_irrefl _ (Nat.lt_trans (hfpl _ hm) h3lt)) (fun b hb => by rw [List.mem_singleton.mp hb]; simp) hroom (by simp) (Nat.ne_of_lt (Nat.lt_trans hclt hIlt)) (fun q => Nat.ne_of_lt hclt (List.mem_singleton.mp q))
  rw [passing_yes, List.length_range] at W
  have hW : (fun j y => ∃ i, (List.range vs.length)[j]? = some i ∧ F i y) = fun j y => j < vs.length ∧ F j y := by
    funext j y
    apply propext
    constructor
    · rintro ⟨i, hi, hF⟩
      obtain ⟨h1, h2⟩ := List.getElem?_eq_some_iff.mp hi
      rw [List.getElem_range] at h2
      subst h2
      exact ⟨by simpa using h1, hF⟩
    · rintro ⟨hj, hF⟩
      exact ⟨j, by simp [hj], hF⟩
  rw [hW] at W
  have W' : WalksS prog w A.in4 h'.objs.size (h'.objs.size :: h₃.objs.size :: cStatics :: s.heap.objs.size :: l :: fpx) (h₃.objs.size :: [s.heap.objs.size]) (GenOnlyQ s.gens.size) vs.length F (GenAt prog w A.in4 h'.objs.size s.gens.size h₃.objs.size (cStatics :: s.heap.objs.size :: l :: fpx) [s.heap.objs.size] (fun _ => true) vs.length F) :=
    { W with item := fun i s Q E hi st hQ => W.item i s Q E hi st fun v s' hP => hQ v s' hP.2 }
  refine h h'.objs.size h₃.objs.size s.heap.objs.size _ _ _ ⟨fun b o hb e => k5 b o (k₃ b o hb e), Nat.le_of_lt (Nat.lt_trans hIlt h3lt), Nat.le_of_lt hIlt, Nat.le_refl _, hPlt, haC, haI, Nat.ne_of_gt hIlt, ?_, ?_, ?_, ⟨_, rfl, rfl⟩, rfl, rfl, W', ?_, ?_⟩ (t₃.keeps k5)
  · show h'.objs.size < (h'.push _).objs.size
    rw [Heap.size_push]; exact Nat.lt_succ_self _
  · show h₃.objs.size < (h'.push _).objs.size
    rw [Heap.size_push]; exact Nat.lt_succ_of_lt h3lt
  · show s.heap.objs.size < (h'.push _).objs.size
    rw [Heap.size_push]; exact Nat.lt_succ_of_lt (Nat.lt_trans hIlt h3lt)
  rotate_left
  · intro b hb
    rcases List.mem_cons.mp hb with rfl | hb
    · exact ⟨Ne.symm hPc, hclt⟩
    rcases List.mem_cons.mp hb with rfl | hb
    · exact ⟨hlP, hlt⟩
    · obtain ⟨h1, o, e⟩ := hfp b hb
      exact ⟨h1, Heap.lt_size e⟩
  have WL : ∀ A' : Around, A'.handled = none → Walks prog w A' s.heap.objs.size (cStatics :: s.heap.objs.size :: l :: fpx) [s.heap.objs.size] vs.length (fun i v => vs.toArray[i]? = some v) (fun i h => h.IsListIter s.heap.objs.size l i ∧ h.IsList l vs.toArray) := fun A' hA' =>
    (by simpa using (Walks.list (prog := prog) (w := w) (A := A') hA' s.heap.objs.size l (Nat.ne_of_lt hlt) vs.toArray) : Walks prog w A' s.heap.objs.size [s.heap.objs.size, l] [s.heap.objs.size] vs.length (fun i v => vs.toArray[i]? = some v) (fun i h => h.IsListIter s.heap.objs.size l i ∧ h.IsList l vs.toArray)).mono_fp fun b hb => by
      rcases List.mem_cons.mp hb with rfl | hb
      · simp
      · rw [List.mem_singleton.mp hb]; simp
  refine GenAt.fresh (A := A.in4) (cenv := genEnv scope cl h₃.objs.size code builtinsNs env) (m := fun y => if y = ".0" then some (.ref s.heap.objs.size) else none) hh WL _ F hx (by simp [genEnv, hkind]) hco
    (fun hm => Nat.lt_irrefl _ (hfpl _ hm)) ⟨?_, ?_⟩ ⟨_, _, _, Heap.get?_push_size _ rfl, rfl, rfl, rfl⟩ (Array.getElem?_push_size ..) ⟨⟨_, k5 _ _ hI₃, rfl, rfl⟩, hl₃.at fun o e => k5 _ _ e⟩ (hn'.push _) (hlim₃.keeps k5)
  · intro A' E' i v s₂ m₂ hA' hP hn hm hk
    exact wpAny_tests_nil ⟨rfl, ⟨_, _, rfl, fun _ _ e => e⟩⟩
  · intro A' E' i v s₂ m₂ hA' hP _ hn hm hk
    refine helt A' E' _ _ _ i v s₂ m₂ hA' (by simpa using hP) hn hm fun b hb o e => ?_
    obtain ⟨hbP, o', e'⟩ := hfp b hb
    refine hk b (by simp [hb]) (fun q => ?_) o (k5 _ _ (k₃ b o hbP e))
    rw [List.mem_singleton.mp q, none_ge _ (Nat.le_refl _)] at e'
    cases e'
end
end Mine
end
theorem Mine.anewG2 : True := by
  w_top off
  exact trivial
section
open PySem PySem.W PySem.Calls PyProof.Rows
set_option Elab.async false
set_option maxRecDepth 100000
set_option linter.unusedVariables false
namespace Mine
section
variable {prog : Program} {w : World} {A : Around} {E : Value → Shared → Prop} {s : Shared} {Q : Value → Shared → Prop}
abbrev FlAt (xs : List UInt64) (i : Nat) (v : Value) : Prop := ∃ x t, xs[i]? = some x ∧ v = .float x t
theorem sp_gens {I J : Addr} {fp wr : List Addr} {St : Nat → Nat → Shared → Prop} {xs ys : List UInt64} {cs : List Int} (hA : A.handled = none) (W : Two prog w A.in1 I J fp wr GBare xs.length ys.length (FlAt xs) (FlAt ys) St)
    (st : St 0 0 s) (hs1 : ∀ Q' : Value → Shared → Prop, Q' (.ref I) s → wpAny (model prog w) A.in1 (pyIter (.ref I)) Q' E s) (hs2 : ∀ Q' : Value → Shared → Prop, Q' (.ref J) s → wpAny (model prog w) A.in1 (pyIter (.ref J)) Q' E s)
    (hlen : xs.length = ys.length) (hp : Prs (xs.zip ys) cs) (hne : xs ≠ []) (hb : sumA cs ≤ 2 ^ 53) (hB : ∀ b ∈ fp, b < s.heap.objs.size)
    (h : ∀ s' r t, Ex r (sumI cs) → Moved wr GBare s s' → Q (.float r t) s') : wpAny (model prog w) A (call (.builtin "math.sumprod") [.ref I, .ref J]) Q E s := by
  refine call_sp_enter (hs1 _ (hs2 _ ?_))
  have hz : ((xs.map Nm.f).map Nm.real).zip ((ys.map Nm.f).map Nm.real) = xs.zip ys := by
    rw [List.map_map, List.map_map]
    have : (Nm.real ∘ Nm.f) = id := rfl
    rw [this, List.map_id, List.map_id]
  have hne2 : xs.zip ys ≠ [] := by
    cases xs with
    | nil => exact absurd rfl hne
    | cons x xs =>
      cases ys with
      | nil => simp at hlen
      | cons y ys => simp
  obtain ⟨ok, r, er, hr⟩ := sprod_ex hp hne2 hb
  have W' : Two prog w A.in1 I J fp wr GBare (xs.map Nm.f).length (ys.map Nm.f).length (FlAt xs) (FlAt ys) St := by rw [List.length_map, List.length_map]; exact W
  have at_ : ∀ (zs : List UInt64) (i : Nat) v, FlAt zs i v → ∃ a, (zs.map Nm.f)[i]? = some a ∧ NmIs v a := fun zs i v hv => by
    obtain ⟨x, t, hx, rfl⟩ := hv
    exact ⟨.f x, by rw [List.getElem?_map, hx]; rfl, t, rfl⟩
  refine codeAny_sp_flts (A := A) (xs := xs.map Nm.f) (ys := ys.map Nm.f) hA (by simpa using hlen) W' (at_ xs) (at_ ys) (fun a ha => ?_) (fun a ha => ?_) (fun i a b ha hb => ?_) s.heap.objs.size hB xs.length 0 _ true false _ zero3 0 _ (by simp) (Nat.zero_le _) (W.frame 0 0 s _ _ st (Nat.le_succ _) fun b _ o e => Heap.get?_push_of_some _ e)
    (fun _ => rfl) (fun h0 => absurd h0 (Nat.lt_irrefl _)) (Nat.le_refl _) (Heap.get?_push_size _ rfl) (by rw [List.drop_zero, List.drop_zero, hz]; exact ok) (fun s' u hu hm => ?_)
  · obtain ⟨x, _, rfl⟩ := List.mem_map.mp ha; trivial
  · obtain ⟨x, _, rfl⟩ := List.mem_map.mp ha; trivial
  · rw [List.getElem?_map] at ha
    cases hx : xs[i]? with
    | none => rw [hx] at ha; cases ha
    | some x => rw [hx] at ha; cases ha; rfl
  · rw [List.drop_zero, List.drop_zero, hz] at hu
    have hn : (xs.map Nm.f).length ≠ 0 := by
      intro q
      rw [List.length_map] at q
      exact hne (List.eq_nil_of_length_eq_zero q)
    rw [if_neg hn] at hu
    have e2 : Nm.f (Float64.add (Float64.ofInt 0) (Builtin.Math.tlToFloat (triFold zero3 (xs.zip ys)))) = .f r := by
      rw [← er]
      unfold sprodF
      cases hxy : xs.zip ys with
      | nil => exact absurd hxy hne2
      | cons p ps => rfl
    rw [e2] at hu
    obtain ⟨t, rfl⟩ := hu
    exact h s' r t hr ⟨fun b o hb e => hm.heap b o hb (Heap.get?_push_of_some _ e), hm.gens, hm.drawn, hm.os, Nat.le_trans (Nat.le_succ _) hm.toks⟩

open PySem.Float64 in
/-- a number less a float, the float said -/
theorem rx_sub {v : Value} {k : Nm} {y : UInt64} {u : Tok} (hA : A.handled = none) (hv : NmIs v k) (hk : k.fits) (h : ∀ t, Q (.float (sub k.real y) t) { s with toks := s.toks + 1 }) : wpAny (model prog w) A (binaryOp .Sub v (.float y u)) Q E s := by
  cases k with
  | i n =>
    obtain ⟨t, rfl⟩ := hv
    exact AutoFloatOps.sub_if_1 (Flt.fin_of_fits hk) (h _)
  | f x =>
    obtain ⟨t, rfl⟩ := hv
    exact AutoFloatOps.sub_0 (h _)
end

/-- what the products of the differences from the means add up to -/
theorem prs_of : ∀ (us zs : List Nm) (ms ks : List Int) (X Y : UInt64) (a b : Int) (cs : List Int), us.length = ms.length → zs.length = ks.length → ms.length = ks.length →
    (∀ (i : Nat) x, us[i]? = some x → ∃ m, ms[i]? = some m ∧ Ex x.real m ∧ Sm (m - a)) → (∀ (i : Nat) x, zs[i]? = some x → ∃ m, ks[i]? = some m ∧ Ex x.real m ∧ Sm (m - b)) → Ex X a → Ex Y b →
    cs.length = ms.length → (∀ (i : Nat) m k c, ms[i]? = some m → ks[i]? = some k → cs[i]? = some c → (m - a) * (k - b) = c * 2 ^ 14) →
    Prs ((us.map fun x => Float64.sub x.real X).zip (zs.map fun x => Float64.sub x.real Y)) cs
  | [], [], [], [], X, Y, a, b, [], _, _, _, _, _, _, _, _, _ => trivial
  | u :: us, z :: zs, m :: ms, k :: ks, X, Y, a, b, c :: cs, h1, h2, h3, hu, hz, hX, hY, h4, hc => by
    obtain ⟨m', e, hm, hs⟩ := hu 0 u rfl
    cases e
    obtain ⟨k', e, hk, hs2⟩ := hz 0 z rfl
    cases e
    refine ⟨⟨m - a, k - b, ex_sub hm hX hs, ex_sub hk hY hs2, hc 0 m k c rfl rfl rfl⟩, ?_⟩
    exact prs_of us zs ms ks X Y a b cs (by simpa using h1) (by simpa using h2) (by simpa using h3) (fun i x hx => hu (i + 1) x (by simpa using hx)) (fun i x hx => hz (i + 1) x (by simpa using hx)) hX hY (by simpa using h4)
      fun i m k c e1 e2 e3 => hc (i + 1) m k c (by simpa using e1) (by simpa using e2) (by simpa using e3)
  | [], _ :: _, ms, ks, _, _, _, _, _, h1, h2, h3, _, _, _, _, _, _ => by simp at h1 h2; omega
  | _ :: _, [], ms, ks, _, _, _, _, _, h1, h2, h3, _, _, _, _, _, _ => by simp at h1 h2; omega
  | [], [], _ :: _, _, _, _, _, _, _, h1, _, _, _, _, _, _, _, _ => by simp at h1
  | [], [], [], _ :: _, _, _, _, _, _, _, h2, _, _, _, _, _, _, _ => by simp at h2
  | [], [], [], [], _, _, _, _, _ :: _, _, _, _, _, _, _, _, h4, _ => by simp at h4
  | _ :: _, _ :: _, [], _, _, _, _, _, _, h1, _, _, _, _, _, _, _, _ => by simp at h1
  | _ :: _, _ :: _, _ :: _, [], _, _, _, _, _, _, h2, _, _, _, _, _, _, _ => by simp at h2
  | _ :: _, _ :: _, _ :: _, _ :: _, _, _, _, _, [], _, _, _, _, _, _, _, h4, _ => by simp at h4
end Mine
end
theorem Mine.anewW1 : True := by
  w_top off
  exact trivial
section
open PySem PySem.W PySem.Calls PyProof.Rows
set_option Elab.async false
set_option maxRecDepth 100000
set_option linter.unusedVariables false
namespace Mine
section
variable {g h h' : Heap} {L : Addr} {m : Str → Option Value} {news : List (Addr × Obj)} {b : Addr} {o : Obj}
theorem newsAdd (N : News g L h news) (e : h.get? b = some o) (hL : b ≠ L) (hg : g.get? b = none) : News g L h ((b, o) :: news) := fun q hq => by
  rcases List.mem_cons.mp hq with rfl | hq
  · exact ⟨e, hL, hg⟩
  · exact N q hq
theorem newsSub (N : News g L h news) {l : List (Addr × Obj)} (hs : ∀ q ∈ l, q ∈ news) : News g L h l := fun q hq => N q (hs q hq)
theorem frKeep (F : Fr g L h m) (k : ∀ b o, h.get? b = some o → h'.get? b = some o) : Fr g L h' m := ⟨F.ns.keeps k, fun b o e => k _ _ (F.keep b o e), F.above⟩
theorem newsKeep (N : News g L h news) (k : ∀ b o, h.get? b = some o → h'.get? b = some o) : News g L h' news := fun q hq => ⟨k _ _ (N q hq).1, (N q hq).2.1, (N q hq).2.2⟩
theorem frBut {P : List Addr} (F : Fr g L h m) (k : ∀ b o, b ∉ P → h.get? b = some o → h'.get? b = some o) (hL : L ∉ P) (hg : ∀ b ∈ P, g.get? b = none) : Fr g L h' m :=
  ⟨F.ns.at' fun o e => k _ _ hL e, fun b o e => k b o (fun q => by rw [hg b q] at e; cases e) (F.keep b o e), F.above⟩
theorem newsBut {P : List Addr} (N : News g L h news) (k : ∀ b o, b ∉ P → h.get? b = some o → h'.get? b = some o) (hn : ∀ q ∈ news, q.1 ∉ P) : News g L h' news := fun q hq => ⟨k _ _ (hn q hq) (N q hq).1, (N q hq).2.1, (N q hq).2.2⟩
theorem triples_of {c P : Addr} {ps : Array Value} (x : h.IsCode c P ps) : TriplesOk ps.toList := by
  obtain ⟨_, _, _, _, _, _, _, _, _, _, _, _, _, _, _, _, _, _, _, k, _⟩ := x
  exact k
/-- the table as it stands in a ledger -/
theorem tabOf {c P : Addr} {ps : Array Value} (C : CodeHd g c P) (F : Fr g L h m) (e : h.get? P = some (tabObj ps)) (ht : TriplesOk ps.toList) : Tab h c P :=
  ⟨ps, (C.keeps F.keep).code e ht, (C.keeps F.keep).tab e⟩
theorem ne_of_cls {a b : Addr} {o o' : Obj} (h1 : h.get? a = some o) (h2 : h.get? b = some o') (hc : o.cls ≠ o'.cls) : a ≠ b := fun q => by
  rw [q, h2] at h1; cases h1; exact hc rfl
end
end Mine
end
theorem Mine.anewW2 : True := by
  w_top off
  exact trivial
section
open PySem PySem.W PySem.Calls PyProof.Rows
set_option Elab.async false
set_option maxRecDepth 100000
set_option linter.unusedVariables false
namespace Mine
section
variable {prog : Program} {w : World} {A : Around} {E : Value → Shared → Prop} {Q : Value → Shared → Prop}

theorem GenAt.pushed {a g C : Nat} {fp wr : List Addr} {pz : Nat → Bool} {n₀ j : Nat} {F : Nat → Value → Prop} {s s' : Shared} {gs : GenState} (st : GenAt prog w A a g C fp wr pz n₀ F j s) (hg : s'.gens = s.gens.push gs)
    (hk : ∀ b, b = a ∨ b = C ∨ b ∈ fp → ∀ o, s.heap.get? b = some o → s'.heap.get? b = some o) (hcs : cStatics ∈ fp) : GenAt prog w A a g C fp wr pz n₀ F j s' := by
  obtain ⟨h1, h2, gs0, h3, h4⟩ := st
  refine ⟨?_, ?_, gs0, ?_, fun s'' hk' => h4 s'' fun b hb o e => hk' b hb o (hk b (by
    rcases List.mem_cons.mp hb with hb | hb
    · exact .inr (.inl hb)
    · exact .inr (.inr hb)) o e)⟩
  · obtain ⟨o, nm, qn, ho, r⟩ := h1
    exact ⟨o, nm, qn, hk a (.inl rfl) o ho, r⟩
  · obtain ⟨mc, hns, hnn⟩ := h2
    exact ⟨mc, hns.at' fun o e => hk cStatics (.inr (.inr hcs)) o e, hnn⟩
  · rw [hg, Array.getElem?_push]
    have hlt : g < s.gens.size := by
      rcases Nat.lt_or_ge g s.gens.size with h' | h'
      · exact h'
      · rw [Array.getElem?_eq_none h'] at h3; cases h3
    rw [if_neg (Nat.ne_of_lt hlt)]
    exact h3

/-- the sum of the products of two generators -/
theorem sp_pair {P a1 C1 I1 l1 a2 C2 I2 l2 : Addr} {fp1 fp2 : List Addr} {s₀ s₁ s₂ : Shared} {xs ys : List UInt64} {cs : List Int} (hA : A.handled = none)
    (G1 : Gened prog w A P s₀ s₁ a1 C1 I1 l1 fp1 xs.length (FlAt xs)) (G2 : Gened prog w A P s₁ s₂ a2 C2 I2 l2 fp2 ys.length (FlAt ys)) (hold : ∀ b ∈ l2 :: fp2, b < s₀.heap.objs.size)
    (hlen : xs.length = ys.length) (hp : Prs (xs.zip ys) cs) (hne : xs ≠ []) (hb : sumA cs ≤ 2 ^ 53)
    (h : ∀ s' r t, Ex r (sumI cs) → (∀ b o, b ≠ P → s₀.heap.get? b = some o → s'.heap.get? b = some o) → (∀ o, s₂.heap.get? P = some o → s'.heap.get? P = some o) → GBare s₀.gens s'.gens → s'.drawn = s₀.drawn → s'.os = s₀.os → Q (.float r t) s') :
    wpAny (model prog w) A (call (.builtin "math.sumprod") [.ref a1, .ref a2]) Q E s₂ := by
  have pne : ∀ {s : Shared} {c : Addr}, P < s.heap.objs.size → s.heap.objs.size ≤ c → c ≠ P := fun h1 h2 q => Nat.lt_irrefl _ (Nat.lt_of_lt_of_le h1 (q ▸ h2))
  have old1 : ∀ b, b ∈ a1 :: C1 :: cStatics :: I1 :: l1 :: fp1 → b ≠ P := fun b hb => by
    rcases List.mem_cons.mp hb with rfl | hb
    · exact pne G1.hP G1.na
    rcases List.mem_cons.mp hb with rfl | hb
    · exact pne G1.hP G1.nC
    rcases List.mem_cons.mp hb with rfl | hb
    · exact (G1.olds _ (by simp)).1
    rcases List.mem_cons.mp hb with rfl | hb
    · exact pne G1.hP G1.nI
    · exact (G1.olds _ (List.mem_cons_of_mem _ hb)).1
  have s01 : ∀ b, b < s₀.heap.objs.size → b < s₁.heap.objs.size := fun b hb => Nat.lt_of_lt_of_le hb (Nat.le_trans G1.nI (Nat.le_of_lt G1.lI))
  have in1 : ∀ b, b ∈ a1 :: C1 :: cStatics :: I1 :: l1 :: fp1 → b < s₁.heap.objs.size := fun b hb => by
    rcases List.mem_cons.mp hb with rfl | hb
    · exact G1.la
    rcases List.mem_cons.mp hb with rfl | hb
    · exact G1.lC
    rcases List.mem_cons.mp hb with rfl | hb
    · exact s01 _ (G1.olds cStatics (by simp)).2
    rcases List.mem_cons.mp hb with rfl | hb
    · exact G1.lI
    · exact s01 _ (G1.olds b (List.mem_cons_of_mem _ hb)).2
  have s12 : ∀ b, b < s₁.heap.objs.size → b < s₂.heap.objs.size := fun b hb => Nat.lt_of_lt_of_le hb (Nat.le_trans G2.nI (Nat.le_of_lt G2.lI))
  have up2 : ∀ b, b ∈ a1 :: C1 :: cStatics :: I1 :: l1 :: fp1 → ∀ o, s₁.heap.get? b = some o → s₂.heap.get? b = some o := fun b hb o e => G2.kept b o (old1 b hb) e
  obtain ⟨gs1, hgb1, hg1⟩ := G1.gens
  obtain ⟨gs2, hgb2, hg2⟩ := G2.gens
  have st1 : GenAt prog w A.in4 a1 s₀.gens.size C1 (cStatics :: I1 :: l1 :: fp1) [I1] (fun _ => true) xs.length (FlAt xs) 0 s₂ := by
    refine GenAt.pushed G1.at0 hg2 (fun b hb o e => up2 b ?_ o e) (by simp)
    rcases hb with rfl | rfl | hb
    · simp
    · simp
    · exact List.mem_cons_of_mem _ (List.mem_cons_of_mem _ hb)
  have gne : s₀.gens.size ≠ s₁.gens.size := by rw [hg1, Array.size_push]; exact Nat.ne_of_lt (Nat.lt_succ_self _)
  have lt_ne : ∀ {b c n : Nat}, b < n → n ≤ c → b ≠ c := fun h1 h2 q => Nat.lt_irrefl _ (Nat.lt_of_lt_of_le h1 (q ▸ h2))
  have d1 : ∀ b ∈ C1 :: [I1], b ≠ a2 ∧ b ≠ C2 ∧ b ∉ cStatics :: I2 :: l2 :: fp2 := fun b hb => by
    have hb0 : s₀.heap.objs.size ≤ b := by
      rcases List.mem_cons.mp hb with rfl | hb
      · exact G1.nC
      · rw [List.mem_singleton.mp hb]; exact G1.nI
    have hb1 : b < s₁.heap.objs.size := by
      rcases List.mem_cons.mp hb with rfl | hb
      · exact G1.lC
      · rw [List.mem_singleton.mp hb]; exact G1.lI
    refine ⟨lt_ne hb1 G2.na, lt_ne hb1 G2.nC, fun hm => ?_⟩
    rcases List.mem_cons.mp hm with rfl | hm
    · exact lt_ne (G1.olds cStatics (by simp)).2 hb0 rfl
    rcases List.mem_cons.mp hm with rfl | hm
    · exact lt_ne hb1 G2.nI rfl
    · exact lt_ne (hold b hm) hb0 rfl
  have d2 : ∀ b ∈ C2 :: [I2], b ≠ a1 ∧ b ≠ C1 ∧ b ∉ cStatics :: I1 :: l1 :: fp1 := fun b hb => by
    have hb0 : s₁.heap.objs.size ≤ b := by
      rcases List.mem_cons.mp hb with rfl | hb
      · exact G2.nC
      · rw [List.mem_singleton.mp hb]; exact G2.nI
    refine ⟨fun q => lt_ne G1.la (q ▸ hb0) rfl, fun q => lt_ne G1.lC (q ▸ hb0) rfl, fun hm => ?_⟩
    exact lt_ne (in1 b (List.mem_cons_of_mem _ (List.mem_cons_of_mem _ hm))) hb0 rfl
  have W := Two.of_gens (A := A.in1) (WalksS.in4_1 G1.walks) (WalksS.in4_1 G2.walks) (fun i s s' st hm => GenAt.moved st hm (Ne.symm gne) d1 (by simp)) (fun i s s' st hm => GenAt.moved st hm gne d2 (by simp))
  refine sp_gens hA W ⟨st1, G2.at0⟩ (fun Q' hq => wpAny_pyIter_gen st1.1 hq) (fun Q' hq => wpAny_pyIter_gen G2.at0.1 hq) hlen hp hne hb (fun b hb => ?_) (fun s' r t hr hm => ?_)
  · rcases List.mem_append.mp hb with hb | hb
    · exact s12 _ (in1 b hb)
    · rcases List.mem_cons.mp hb with rfl | hb
      · exact G2.la
      rcases List.mem_cons.mp hb with rfl | hb
      · exact G2.lC
      rcases List.mem_cons.mp hb with rfl | hb
      · exact s12 _ (G2.olds cStatics (by simp)).2
      rcases List.mem_cons.mp hb with rfl | hb
      · exact G2.lI
      · exact s12 _ (G2.olds b (List.mem_cons_of_mem _ hb)).2
  · have wrn : ∀ b, b < s₀.heap.objs.size → b ∉ (C1 :: [I1]) ++ (C2 :: [I2]) := fun b hb hm => by
      have hb1 := s01 b hb
      rcases List.mem_append.mp hm with hm | hm
      · rcases List.mem_cons.mp hm with rfl | hm
        · exact lt_ne hb G1.nC rfl
        · rw [List.mem_singleton.mp hm] at hb; exact lt_ne hb G1.nI rfl
      · rcases List.mem_cons.mp hm with rfl | hm
        · exact lt_ne hb1 G2.nC rfl
        · rw [List.mem_singleton.mp hm] at hb1; exact lt_ne hb1 G2.nI rfl
    refine h s' r t hr (fun b o hbP e => hm.heap b o (wrn b (Heap.lt_size e)) (G2.kept b o hbP (G1.kept b o hbP e))) (fun o e => hm.heap P o (wrn P G1.hP) e) (fun ha => hm.gens ?_) (hm.drawn.trans (G2.drawn.trans G1.drawn)) (hm.os.trans (G2.os.trans G1.os))
    rw [hg2, hg1]
    intro y hy
    rcases Array.mem_push.mp hy with hy | rfl
    · rcases Array.mem_push.mp hy with hy | rfl
      · exact ha y hy
      · exact hgb1
    · exact hgb2
end
end Mine
end
theorem Mine.anewW3 : True := by
  w_top off
  exact trivial
section
open PySem PySem.W PySem.Calls PyProof.Rows
set_option Elab.async false
set_option maxRecDepth 100000
set_option linter.unusedVariables false
namespace Mine
section
variable {prog : Program} {w : World} {A : Around} {E : Value → Shared → Prop} {s : Shared} {g : Heap} {p : Program} {loose : List Str} {mean : ExcName → Option Value} {mg mb : Str → Option Value}
theorem bi_of {running : Addr} {Q : Addr → Shared → Prop} (T : Top p loose mean mg mb g) (k : ∀ b o, g.get? b = some o → s.heap.get? b = some o) (h : Q builtinsNs s) : wpAny (model prog w) A (builtinsFor mainGlobals running) Q E s := by
  obtain ⟨bm, ob, a, b, c, d, e, f⟩ := T.bmain
  exact wpAny_builtinsFor (T.g.keeps k) a b (k _ _ c) d e f h

theorem elt_sub {cenv : Env} {x z : Str} {p1 p2 p3 : Pos} {c : Addr} {m₂ : Str → Option Value} {v : Value} {k : Nm} {Y : UInt64} {ty : Tok} {o : Obj} (hA : A.handled = none) (hn : s.heap.Ns cenv.locals m₂) (hm : m₂ x = some v) (hv : NmIs v k) (hk : k.fits)
    (hc : cenv.cells.lookup z = some c) (ho : s.heap.get? c = some o) (hd : o.data = .cell (some (.float Y ty))) (hkf : cenv.scope.kind = .function) (hkx : cenv.kindOf x = some .local) (hkz : cenv.kindOf z = some .free)
    (hb1 : (x == ("__debug__" : Str)) = false := by decide) (hb2 : (z == ("__debug__" : Str)) = false := by decide) (hb3 : (z == ("__classdict__" : Str)) = false := by decide) :
    wpAny (model prog w) A (eval (.BinOp (.Name x p1) .Sub (.Name z p2) p3) cenv) (fun y s₃ => (∃ tk, y = .float (Float64.sub k.real Y) tk) ∧ Keeps s s₃) E s :=
  wpAny_BinOp (wpAny_Name (wpAny_loadName_local hkf hkx hn hm (wpAny_Name (wpAny_loadName_free hkf hkz hc ⟨o, ho, hd⟩ (rx_sub hA hv hk fun t => ⟨⟨t, rfl⟩, ⟨_, _, rfl, fun _ _ e => e⟩⟩) hb3) hb2)) hb1)
end

theorem cell_ne {h : Heap} {a b : Addr} {oa : Obj} {ps : Array Value} {v : Option Value} (h1 : h.get? a = some oa) (h2 : h.get? b = some (tabObj ps)) (hd : oa.data = .cell v) : a ≠ b := fun q => by
  rw [q, h2] at h1
  cases h1
  cases hd

/-- what makes a covariance exact -/
structure CovM (ms ks : List Int) (n : Nat) (t : Int) : Prop where
  lm : ms.length = n
  lk : ks.length = n
  bm : sumA ms ≤ 2 ^ 53
  bk : sumA ks ≤ 2 ^ 53
  st : Sm t
  rest : ∃ a b cs, sumI ms = a * n ∧ sumI ks = b * n ∧ Sm a ∧ Sm b ∧ (∀ m ∈ ms, Sm (m - a)) ∧ (∀ k ∈ ks, Sm (k - b)) ∧ cs.length = n ∧
    (∀ (i : Nat) m k c, ms[i]? = some m → ks[i]? = some k → cs[i]? = some c → (m - a) * (k - b) = c * 2 ^ 14) ∧ sumA cs ≤ 2 ^ 53 ∧ sumI cs = t * ((n : Int) - 1)
theorem sm_of_mem : ∀ {l : List Int} {m : Int}, m ∈ l → sumA l ≤ 2 ^ 53 → Sm m
  | x :: l, m, h, hb => by
    have hb' : x.natAbs + sumA l ≤ 2 ^ 53 := hb
    rcases List.mem_cons.mp h with rfl | h
    · unfold Sm; omega
    · exact sm_of_mem h (by omega)
theorem vx_at {vs : List Value} {us : List Nm} {ms : List Int} (h : VxAre vs us ms) {i : Nat} {v : Value} (hv : vs[i]? = some v) : ∃ k m, us[i]? = some k ∧ ms[i]? = some m ∧ NmIs v k ∧ Nx k m := by
  obtain ⟨k, hk, hn⟩ := h.1.2 i v hv
  obtain ⟨m, hm, hx⟩ := h.2.2 i k hk
  exact ⟨k, m, hk, hm, hn, hx⟩
theorem sm_nat {n : Nat} (h : n ≤ 1000) : Sm ((n : Int) * 2 ^ 14) := by
  unfold Sm
  rw [Int.natAbs_mul, natAbs_pow, Int.natAbs_natCast]
  have h2 : n * 2 ^ 14 ≤ 1000 * 2 ^ 14 := Nat.mul_le_mul_right _ h
  omega

theorem CovM.mean {ms : List Int} {n : Nat} {r : UInt64} {a : Int} (hr : Ex r (sumI ms)) (ha : sumI ms = a * n) (hs : Sm a) (h2 : 2 ≤ n) (h16 : n ≤ 16) : Ex (Float64.div r (Float64.ofInt n)) a :=
  ex_div hr (ex_ofInt (sm_nat (by omega))) (by omega) ha hs
theorem CovM.prs {ms ks : List Int} {n : Nat} {vs ws : List Value} {us zs : List Nm} (hu : VxAre vs us ms) (hz : VxAre ws zs ks) (hlm : ms.length = n) (hlk : ks.length = n) (hbm : sumA ms ≤ 2 ^ 53) (hbk : sumA ks ≤ 2 ^ 53) {a b : Int} {cs : List Int}
    (h1 : ∀ m ∈ ms, Sm (m - a)) (h2 : ∀ k ∈ ks, Sm (k - b)) (hl : cs.length = n) (h3 : ∀ (i : Nat) m k c, ms[i]? = some m → ks[i]? = some k → cs[i]? = some c → (m - a) * (k - b) = c * 2 ^ 14) {X Y : UInt64} (hX : Ex X a) (hY : Ex Y b) :
    Prs ((us.map fun k => Float64.sub k.real X).zip (zs.map fun k => Float64.sub k.real Y)) cs := by
  refine prs_of us zs ms ks X Y a b cs hu.2.1 hz.2.1 (hlm.trans hlk.symm) (fun i x hx => ?_) (fun i x hx => ?_) hX hY (hl.trans hlm.symm) h3
  · obtain ⟨m, hm, hn⟩ := hu.2.2 i x hx
    have mem := List.mem_of_getElem? hm
    exact ⟨m, hm, nx_real hn (sm_of_mem mem hbm), h1 m mem⟩
  · obtain ⟨m, hm, hn⟩ := hz.2.2 i x hx
    have mem := List.mem_of_getElem? hm
    exact ⟨m, hm, nx_real hn (sm_of_mem mem hbk), h2 m mem⟩
end Mine
end
theorem Mine.anewEn : True := by
  w_top off
  exact trivial
section
open PySem PySem.W PySem.Calls PyProof.Rows
set_option Elab.async false
set_option maxRecDepth 100000
set_option linter.unusedVariables false
namespace Mine
section
variable {prog : Program} {w : World} {A₀ : Around} {s : Shared} {base : Heap} {outer : List Env} {mods : List Addr} {Kf : Frag} {p : Program} {loose : List Str} {mean : ExcName → Option Value} {mg mb : Str → Option Value}
  {R : Result → Shared → Prop} {name qual : Str} {params : Arguments} {body : List Stmt} {scope : Scope} {dV kV doc pm cdv ct oc : Value} {an od : Option Addr} {osl : Array (Option Value)} {f : Addr} {args : Args} {binds : List (Str × Value)}

/-- a def is entered: the ground is all that stands, without what may turn -/
theorem enter_plain2 (K0 : Below A₀ base outer s.heap) (hm : ∀ b ∈ mods, base.get? b = none ∧ b ∉ frs outer) (XB : Kf.In base) (TB : Top p loose mean mg mb base)
    (ho : Kf.lookup f = some ⟨oc, od, .func (fnOf name qual params body scope dV kV doc pm an cdv ct), osl⟩) (hcd : codeIn Kf cdv qual = true) (hroom : A₀.depth < recursionLimit)
    (hbind : BindsTo s (fnOf name qual params body scope dV kV doc pm an cdv ct) args binds) (hloc : ∀ y ∈ binds, scope.names.lookup y.1 = some .local)
    (h : ∀ g L' h₁, Fr g L' h₁ (fun y => binds.reverse.lookup y) → Below A₀ base outer g → Kf.In g → Top p loose mean mg mb g → (∀ b o, b ∉ mods → s.heap.get? b = some o → g.get? b = some o) → (∀ b ∈ mods, g.get? b = none) → (∀ b o, s.heap.get? b = some o → h₁.get? b = some o) → L' = s.heap.objs.size →
      wpAny (model prog w) (A₀.deeper (envOf qual scope L' f cdv)) (execs body (envOf qual scope L' f cdv))
        (fun fl s' => R (.ok (.ret (match fl with | .ret v => v | _ => .none))) s')
        (fun e s' => wpAny (model prog w) (A₀.deeper (envOf qual scope L' f cdv)) (leaving (envOf qual scope L' f cdv) e) (fun _ s'' => R (.error e) s'') (fun e' s'' => R (.error e') s'') s')
        { s with heap := h₁, toks := s.toks + binds.length })
    (hcell : ∀ x ∈ scope.names, x.2 ≠ .cell) (hco : scope.isCoroutine = false := by rfl) (hgen : scope.isGenerator = false := by rfl) (hk : scope.kind = .function := by rfl) : codeAny (model prog w) A₀ (.call (.ref f) args) R s := by
  have X : Kf.In s.heap := XB.keeps K0.stays
  have T : Top p loose mean mg mb s.heap := TB.keeps K0.stays
  have Kg := hide_below K0 hm
  refine codeAny_call_def (fd := fnOf name qual params body scope dV kV doc pm an cdv ct) (body := body) (binds := binds) hroom (X _ _ ho) rfl T.nolimit (codeRec_of X hcd) rfl hbind hcell hloc (fun h₁ hns hk₁ => ?_) hco hgen hk
  refine h (hideAll s.heap mods) s.heap.objs.size h₁ ⟨hns, fun b o e => hk₁ b o (of_hideAll _ e), Nat.le_of_eq (hideAll_size _ _)⟩ Kg (XB.keeps Kg.stays) (TB.keeps Kg.stays) (fun b o m e => hideAll_get _ e m) (fun b hb => hideAll_none _ hb) hk₁ rfl

/-- the same, of a def with cells -/
theorem enter_cells2 (K0 : Below A₀ base outer s.heap) (hm : ∀ b ∈ mods, base.get? b = none ∧ b ∉ frs outer) (XB : Kf.In base) (TB : Top p loose mean mg mb base)
    (ho : Kf.lookup f = some ⟨oc, od, .func (fnOf name qual params body scope dV kV doc pm an cdv ct), osl⟩) (hcd : codeIn Kf cdv qual = true) (hroom : A₀.depth < recursionLimit)
    (hbind : BindsTo s (fnOf name qual params body scope dV kV doc pm an cdv ct) args binds)
    (hkind : (binds.all fun y => scope.names.lookup y.1 == some .local || scope.names.lookup y.1 == some .cell) = true) (hnd : ((cellsFrom 0 scope.names []).map (·.1)).Nodup)
    (h : ∀ g L' h₁ tk cells, Fr g L' h₁ (bindL (envOfC qual scope L' f cdv).kindOf binds fun _ => none) → News g L' h₁ cells →
      CellsAre (bindC (envOfC qual scope L' f cdv).kindOf binds fun _ => none) (cellsFrom (L' + 1) scope.names []) cells → Below A₀ base outer g → Kf.In g → Top p loose mean mg mb g → (∀ b o, b ∉ mods → s.heap.get? b = some o → g.get? b = some o) → (∀ b ∈ mods, g.get? b = none) → (∀ b o, s.heap.get? b = some o → h₁.get? b = some o) → L' = s.heap.objs.size →
      wpAny (model prog w) (A₀.deeper (envOfC qual scope L' f cdv)) (execs body (envOfC qual scope L' f cdv))
        (fun fl s' => R (.ok (.ret (match fl with | .ret v => v | _ => .none))) s')
        (fun e s' => wpAny (model prog w) (A₀.deeper (envOfC qual scope L' f cdv)) (leaving (envOfC qual scope L' f cdv) e) (fun _ s'' => R (.error e) s'') (fun e' s'' => R (.error e') s'') s')
        { s with heap := h₁, toks := tk })
    (hco : scope.isCoroutine = false := by rfl) (hgen : scope.isGenerator = false := by rfl) (hk : scope.kind = .function := by rfl) : codeAny (model prog w) A₀ (.call (.ref f) args) R s := by
  have X : Kf.In s.heap := XB.keeps K0.stays
  have T : Top p loose mean mg mb s.heap := TB.keeps K0.stays
  have Kg := hide_below K0 hm
  refine codeAny_call_function hroom (X _ _ ho) rfl hco hgen rfl (codeRec_of X hcd) (hbind _ _ _ _ ?_)
  refine wpAny_newFunctionEnv_cells hk (kindsX hkind _) fun env' he s' x => ?_
  subst he
  refine ⟨T.nolimit.keeps x.toInCall.keep, codeAny_func ?_⟩
  obtain ⟨h₁, tk, rfl, _⟩ := x.done
  have hk₁ := x.toInCall.keep
  obtain ⟨cells, NC, Y⟩ := Cl.news (h₀ := s.heap) (Nat.le_refl _) fun n c hm => ⟨x.cell n c (lookup_of_mem_nodup (cellsFrom_names scope.names 0 (s.heap.objs.size + 1) [] [] rfl ▸ hnd) hm), x.above n c hm⟩
  refine h (hideAll s.heap mods) s.heap.objs.size h₁ tk cells ⟨x.toInCall.ns, fun b o e => hk₁ b o (of_hideAll _ e), Nat.le_of_eq (hideAll_size _ _)⟩ (fun q hq => ⟨(NC q hq).1, (NC q hq).2.1, ?_⟩) Y Kg (XB.keeps Kg.stays) (TB.keeps Kg.stays) (fun b o m e => hideAll_get _ e m) (fun b hb => hideAll_none _ hb) hk₁ rfl
  cases q' : (hideAll s.heap mods).get? q.1 with
  | none => rfl
  | some o => have := of_hideAll _ q'; rw [(NC q hq).2.2] at this; cases this
end
end Mine
end
theorem Mine.anewCov : True := by
  w_top off
  exact trivial
section
open PySem PySem.W PyProof.Rows PySem.Calls
set_option Elab.async false
set_option maxRecDepth 100000
set_option maxHeartbeats 8000000
set_option linter.unusedVariables false
namespace Mine
abbrev progA : Program := PySem.Challenge.rw_kp0013_01.row.prog
theorem cov {w : World} {p : Program} {loose : List Str} {mean : ExcName → Option Value} {mg mb : Str → Option Value} {dp un : Nat} {gd : Option (List Code)} {cn : Str} {cs : Scope} {L a : Addr} {ccd : Value} {cl : List (Str × Addr)} {outer : List Env} {base : Heap} {s : Shared} {Q E : Value → Shared → Prop}
   (K0 : Below (ktrTop dp un gd cn cs L a ccd cl outer) base (envX cn cs L a ccd cl :: outer) s.heap) (hmb : ∀ b ∈ [57], base.get? b = none ∧ b ∉ frs (envX cn cs L a ccd cl :: outer)) (X : (hd1.heap_39 w.params).In base) (T : Top p loose mean mg mb base)
   (C : CodeHd base 61 57) (hT : Tab s.heap 61 57)
   {x y : Addr} {vs ws : List Value} {us zs : List Nm} {ms ks : List Int} {n : Nat} {res : Int} (hx : s.heap.IsList x vs.toArray) (hy : s.heap.IsList y ws.toArray)
   (hu : VxAre vs us ms) (hz : VxAre ws zs ks) (hl2 : 2 ≤ n) (hl16 : n ≤ 16) (M : CovM ms ks n res)
   (hroom : dp + 8 < recursionLimit) (hun : un + 8 < cLine)
   (ret : ∀ s' r t, Ex r res → (∀ b o, b ≠ 57 → s.heap.get? b = some o → s'.heap.get? b = some o) → Tab s'.heap 61 57 → GBare s.gens s'.gens → s'.drawn = s.drawn → s'.os = s.os → Q (.float r t) s') :
   wpAny (model PySem.Challenge.rw_kp0013_01.row.prog w) (ktrTop dp un gd cn cs L a ccd cl outer) (call (.ref 62) [.ref x, .ref y]) Q E s := by
  have hn : vs.length = n := hu.1.1.trans (hu.2.1.trans M.lm)
  have hn2 : ws.length = n := hz.1.1.trans (hz.2.1.trans M.lk)
  revert X; k_fill; intro X
  refine wpAny_call ?_
  refine' enter_cells2 (binds := [("x", .ref x), ("y", .ref y)]) K0 hmb X T ?ho ?hcd ?hroom ?hbind ?hkind ?hnd ?_ ?c1 ?c2 ?c3
  case ho => k_is
  case hcd => k_is
  case hroom => ktr_room
  case hbind => exact BindsTo.of_eq rfl
  case hkind => exact rfl
  case hnd => decide +kernel
  case c1 => exact rfl
  case c2 => exact rfl
  case c3 => exact rfl
  intro g L' h₁ tk cells F N Y B Xg Tg Kp hmg hkeep hL'
  k_cells Y
  (try simp only [List.cons_append, List.nil_append] at N)
  (try dsimp only)
  have hT0 := hT
  obtain ⟨ps, hTc, hTt⟩ := hT
  have htr : TriplesOk ps.toList := triples_of hTc
  have h57 : s.heap.get? 57 = some (tabObj ps) := hTt.2
  have hL57 : (57 : Nat) ≠ L' := fun q => by
    have := Heap.lt_size h57
    rw [q, hL'] at this
    exact Nat.lt_irrefl _ this
  replace N := newsAdd N (show h₁.get? 57 = some (tabObj ps) from hkeep _ _ h57) hL57 (hmg 57 (by simp))
  have hx57 : x ≠ 57 := fun q => by
    obtain ⟨o, ho, hc, _⟩ := hx
    rw [q, h57] at ho; cases ho; cases hc
  have hy57 : y ≠ 57 := fun q => by
    obtain ⟨o, ho, hc, _⟩ := hy
    rw [q, h57] at ho; cases ho; cases hc
  replace hx := hx.at fun o e => Kp _ _ (by simpa using hx57) e
  replace hy := hy.at fun o e => Kp _ _ (by simpa using hy57) e
  have hC : CodeHd g 61 57 := C.keeps B.stays
  clear hkeep hL' K0 X T hT0 hTc hTt C
  (repeat' (first | (exfalso; omega) | (k_unfold; (try dsimp only)) | walk1 | (dsimp only; walk1) | (leave1; walk_say "STEP leave1"; try dsimp only)))
  refine call_len_list (hx.at fun _ e => Fr.keep (by assumption) _ _ e) (by simp; omega) ?_
  simp only [List.size_toArray, hn]
  (repeat' (first | (exfalso; omega) | (k_unfold; (try dsimp only)) | walk1 | (dsimp only; walk1) | (leave1; walk_say "STEP leave1"; try dsimp only)))
  refine call_len_list (hy.at fun _ e => Fr.keep (by assumption) _ _ e) (by simp; omega) ?_
  simp only [List.size_toArray, hn2]
  (repeat' (first | (exfalso; omega) | (k_unfold; (try dsimp only)) | walk1 | (dsimp only; walk1) | (leave1; walk_say "STEP leave1"; try dsimp only)))
  rename Fr _ _ _ _ => F
  rename News _ _ _ _ => N
  refine vx_fsum rfl (hx.at fun _ e => F.keep _ _ e) hu M.bm (Nat.lt_of_le_of_lt (show us.length ≤ 16 from by have := hu.1.1; omega) (by decide)) ?_
  intro h2 tk2 r t hr k2
  replace F := frKeep F k2
  replace N := newsKeep N k2
  (repeat' (first | (exfalso; omega) | (k_unfold; (try dsimp only)) | walk1 | (dsimp only; walk1) | (leave1; walk_say "STEP leave1"; try dsimp only)))
  rename Fr _ _ _ _ => F
  rename News _ _ _ _ => N
  rename (Obj.data _ = Data.cell (some (Value.float (Float64.div r _) _))) => dX
  refine vx_fsum rfl (hy.at fun _ e => F.keep _ _ e) hz M.bk (Nat.lt_of_le_of_lt (show zs.length ≤ 16 from by have := hz.1.1; omega) (by decide)) ?_
  intro h3 tk3 r3 t3 hr3 k3
  replace F := frKeep F k3
  replace N := newsKeep N k3
  (repeat' (first | (exfalso; omega) | (k_unfold; (try dsimp only)) | walk1 | (dsimp only; walk1) | (leave1; walk_say "STEP leave1"; try dsimp only)))
  rename Fr _ _ _ _ => F
  rename News _ _ _ _ => N
  rename (Obj.data _ = Data.cell (some (Value.float (Float64.div r3 _) _))) => dY
  have hnt : ∀ {h : Heap} {m : Str → Option Value}, Fr g L' h m → h.NoLimit := fun F => (Top.nolimit Tg).keeps F.keep
  have hg57 : g.get? 57 = none := hmg 57 (by simp)
  have ux := exs_of us ms hu.2.1 hu.2.2 M.bm
  have uz := exs_of zs ks hz.2.1 hz.2.2 M.bk
  have n57 := N _ (List.mem_append_left _ List.mem_cons_self)
  have nX := N _ (List.mem_append_right _ (List.mem_cons_of_mem _ List.mem_cons_self))
  have nY := N _ (List.mem_append_right _ List.mem_cons_self)
  have hX57 : L' + 1 ≠ 57 := cell_ne nX.1 n57.1 dX
  have hY57 : L' + 1 + 1 ≠ 57 := cell_ne nY.1 n57.1 dY
  refine gen_new (l := x) (c := 61) (P := 57) (vs := vs) (fpx := [L' + 1]) (F := FlAt (us.map fun k => Float64.sub k.real (Float64.div r (Float64.ofInt n)))) rfl ?room ?iter (hx.at fun _ e => F.keep _ _ e) hx57 (hnt F) (by decide) rfl ?tab ?bi ?fp ?elt ?_
  case room => ktr_room
  case iter => intro Q' h; exact nameX_L F (by rfl) h
  case tab => exact tabOf hC F n57.1 htr
  case bi => exact fun s₃ Q' k h => bi_of Tg (fun b o e => k b o (fun q => by rw [q, hg57] at e; cases e) (F.keep b o e)) h
  case fp =>
    intro b hb
    rw [List.mem_singleton.mp hb]
    exact ⟨hX57, _, nX.1⟩
  case elt =>
    intro A' E' C' code bi i v t' m₂ hA' hv hns hm hk
    obtain ⟨k, m, hk1, hm1, hnm, hnx⟩ := vx_at hu hv
    refine wpAny_mono (elt_sub hA' hns hm hnm (ux.2 k (List.mem_of_getElem? hk1)) rfl (hk _ (by simp) _ nX.1) dX rfl rfl rfl) (fun y s₃ hy => ?_) fun _ _ e => e
    obtain ⟨⟨tk, rfl⟩, hk2⟩ := hy
    exact ⟨⟨_, tk, by rw [List.getElem?_map, hk1]; rfl, rfl⟩, hk2⟩
  intro a1 C1 I1 h4 gs1 tk4 G1 hT4
  have kp4 : ∀ b o, b ∉ [57] → _ → h4.get? b = some o := fun b o hb e => G1.kept b o (by simpa using hb) e
  have F4 : Fr g L' h4 _ := frBut F kp4 (by simpa using Ne.symm hL57) (fun b hb => by rw [List.mem_singleton.mp hb]; exact hg57)
  obtain ⟨ps4, hT4c, hT4t⟩ := hT4
  walk1
  refine gen_new (l := y) (c := 61) (P := 57) (vs := ws) (fpx := [L' + 1 + 1]) (F := FlAt (zs.map fun k => Float64.sub k.real (Float64.div r3 (Float64.ofInt n)))) rfl ?room ?iter (hy.at fun _ e => F4.keep _ _ e) hy57 (hnt F4) (by decide) rfl ⟨ps4, hT4c, hT4t⟩ ?bi ?fp ?elt ?_
  case room => ktr_room
  case iter => intro Q' h; exact nameX_L F4 (by rfl) h
  case bi => exact fun s₃ Q' k h => bi_of Tg (fun b o e => k b o (fun q => by rw [q, hg57] at e; cases e) (F4.keep b o e)) h
  case fp =>
    intro b hb
    rw [List.mem_singleton.mp hb]
    exact ⟨hY57, _, kp4 _ _ (by simpa using hY57) nY.1⟩
  case elt =>
    intro A' E' C' code bi i v t' m₂ hA' hv hns hm hk
    obtain ⟨k, m, hk1, hm1, hnm, hnx⟩ := vx_at hz hv
    refine wpAny_mono (elt_sub hA' hns hm hnm (uz.2 k (List.mem_of_getElem? hk1)) rfl (hk _ (by simp) _ (kp4 _ _ (by simpa using hY57) nY.1)) dY rfl rfl rfl) (fun y s₃ hy => ?_) fun _ _ e => e
    obtain ⟨⟨tk, rfl⟩, hk2⟩ := hy
    exact ⟨⟨_, tk, by rw [List.getElem?_map, hk1]; rfl, rfl⟩, hk2⟩
  intro a2 C2 I2 h5 gs2 tk5 G2 hT5
  (repeat' (first | (exfalso; omega) | (k_unfold; (try dsimp only)) | walk1 | (dsimp only; walk1) | (leave1; walk_say "STEP leave1"; try dsimp only)))
  obtain ⟨a', b', cs', ha, hb, sa, sb, h1, h2, hl, h3, hbc, hsum⟩ := M.rest
  rw [show vs.length = (us.map fun k => Float64.sub k.real (Float64.div r (Float64.ofInt n))).length from by rw [List.length_map]; exact hu.1.1] at G1
  rw [show ws.length = (zs.map fun k => Float64.sub k.real (Float64.div r3 (Float64.ofInt n))).length from by rw [List.length_map]; exact hz.1.1] at G2
  refine sp_pair rfl G1 G2 ?hold ?hlen (CovM.prs hu hz M.lm M.lk M.bm M.bk h1 h2 hl h3 (CovM.mean hr ha sa hl2 hl16) (CovM.mean hr3 hb sb hl2 hl16)) ?hne hbc ?_
  case hold =>
    intro b hb
    rcases List.mem_cons.mp hb with rfl | hb
    · obtain ⟨o, e, _⟩ := hy
      exact Heap.lt_size (F.keep _ _ e)
    · rw [List.mem_singleton.mp hb]; exact Heap.lt_size nY.1
  case hlen => rw [List.length_map, List.length_map]; exact hu.1.1.symm.trans (hn.trans (hn2.symm.trans hz.1.1))
  case hne =>
    intro q
    have e := List.map_eq_nil_iff.mp q
    have h0 : vs.length = 0 := by rw [hu.1.1, e]; rfl
    omega
  intro s6 r6 t6 hr6 kept6 keptP gb6 dr6 os6
  obtain ⟨h6, g6, d6, tk6, o6⟩ := s6
  dsimp only at kept6 keptP gb6 dr6 os6
  have F6 := frBut (P := [57]) F (fun b o hb e => kept6 b o (by simpa using hb) e) (by simpa using Ne.symm hL57) (fun b hb => by rw [List.mem_singleton.mp hb]; exact hg57)
  obtain ⟨ps5, hT5c, hT5t⟩ := hT5
  have N6 : News g L' h6 [(57, tabObj ps5)] := newsAdd (fun _ h => nomatch h) (keptP _ hT5t.2) hL57 hg57
  clear F F4 N
  (repeat' (first | (exfalso; omega) | (k_unfold; (try dsimp only)) | walk1 | (dsimp only; walk1) | (leave1; walk_say "STEP leave1"; try dsimp only)))
  rename Fr _ _ _ _ => F7
  rename News _ _ _ _ => N7
  refine ret _ _ _ (ex_div hr6 (?_ : Ex (Float64.ofInt ((n : Int) - 1)) (((n : Int) - 1) * 2 ^ 14)) (by omega) hsum M.st) (fun b o hb e => F7.keep _ _ (Kp b o (by simpa using hb) e)) (tabOf hC F7 (N7 _ List.mem_cons_self).1 (triples_of hT5c)) gb6 dr6 os6
  have e : (n : Int) - 1 = ((n - 1 : Nat) : Int) := by omega
  rw [e]
  exact ex_ofInt (sm_nat (by omega))
end Mine
end
theorem Mine.anewLc : True := by
  w_top off
  exact trivial
section
open PySem PySem.W PySem.Calls PyProof.Rows
set_option Elab.async false
set_option maxRecDepth 100000
set_option linter.unusedVariables false
namespace Mine
/-- values that are indices -/
def IxAre (rv : List Value) (ix : List Nat) : Prop := rv.length = ix.length ∧ ∀ (i : Nat) v, rv[i]? = some v → ∃ k t, ix[i]? = some k ∧ v = .int (k : Nat) t
def Pick (vs : List Value) (v y : Value) : Prop := ∃ (k : Nat) (t : Tok), v = Value.int (k : Nat) t ∧ vs[k]? = some y
theorem paired_pick {vs : List Value} {rv ys : List Value} (p : Paired (Pick vs) rv ys) : ∀ (ix : List Nat), IxAre rv ix → ys = ix.map fun k => vs.getD k .none := by
  induction p with
  | nil =>
    intro ix h
    have := h.1
    cases ix with
    | nil => rfl
    | cons _ _ => simp at this
  | @cons v y rv ys hv _ ih =>
    intro ix h
    cases ix with
    | nil => have := h.1; simp at this
    | cons k ix =>
      obtain ⟨k', t, e, hv'⟩ := h.2 0 v rfl
      cases e
      obtain ⟨k2, t2, e2, hy⟩ := hv
      rw [hv'] at e2
      have hk : k = k2 := by injection e2 with h1 h2; exact Int.ofNat_inj.mp h1
      subst hk
      rw [List.map_cons, ← ih ix ⟨by simpa using h.1, fun i v hv => h.2 (i + 1) v (by simpa using hv)⟩]
      congr 1
      rw [List.getD_eq_getElem?_getD, hy]; rfl
section
variable {prog : Program} {w : World} {A : Around} {E : Value → Shared → Prop} {s : Shared}
theorem lc_pick {env : Env} {X x : Str} {iter : Expr} {p1 p2 p3 px pos : Pos} {scope : Scope} {cl : List (Str × Addr)} {c l r : Addr} {vs rv : List Value} {ix : List Nat} {o : Obj} {Q : Value → Shared → Prop}
    (hA : A.handled = none) (hiter : ∀ Q' : Value → Shared → Prop, Q' (.ref r) s → wpAny (model prog w) A (eval iter env) Q' E s) (hr : s.heap.IsList r rv.toArray) (hix : IxAre rv ix) (hin : ∀ k ∈ ix, k < vs.length) (hlen : ix.length ≤ 1000) (hvl : vs.length ≤ 1000)
    (ho : s.heap.get? c = some o) (hd : o.data = .cell (some (.ref l))) (hl : s.heap.IsList l vs.toArray)
    (h : ∀ D h' tk, (∀ b o, s.heap.get? b = some o → h'.get? b = some o) → s.heap.get? D = none → h'.IsList D (ix.map fun k => vs.getD k .none).toArray → Q (.ref D) { s with heap := h', toks := tk })
    (hcl : cl.lookup X = some c := by rfl) (hkX : (relabel scope env).names.lookup X = some .cell := by rfl)
    (hclos : closureFor scope env = pure cl := by rfl) (hcell : ∀ y ∈ scope.names, y.2 ≠ .cell := by decide) (hkind : scope.kind = .function := by rfl)
    (hnames : ∀ y ∈ scope.names, y.2 = .local → scope.names.lookup y.1 = some .local := by decide) (hx : scope.names.lookup x = some .local := by rfl) (hb1 : (x == ("__debug__" : Str)) = false := by decide) (hb2 : (X == ("__debug__" : Str)) = false := by decide)
    (hs : ∀ x, foldedSetIterable iter env x = pure x := by intro _; rfl) :
    wpAny (model prog w) A (eval (.ListComp (.Subscript (.Name X p1) (.Name x p2) p3) [⟨.Name x px, iter, [], 0⟩] scope pos) env) Q E s := by
  have hlt : r < s.heap.objs.size := by obtain ⟨_, e, _⟩ := hr; exact Heap.lt_size e
  refine wpAny_ListComp_free (fun _ => true) (Pick vs) hclos hcell hkind hnames hx (hiter _ (wpAny_pyIter_list hr ?_)) hs
  have up : ∀ b o, s.heap.get? b = some o → (s.heap.push { cls := .type "list_iterator", data := .fields #[.ref r, .int 0 0] }).get? b = some o := fun b o e => Heap.get?_push_of_some _ e
  refine ⟨_, [s.heap.objs.size, r], [s.heap.objs.size], rv.toArray.size, _, _, rfl, Walks.list hA s.heap.objs.size r (Nat.ne_of_lt hlt) rv.toArray, ?_, ⟨⟨_, Heap.get?_push_size _ rfl, rfl, rfl⟩, hr.push _⟩, ?_, ⟨?_, ?_⟩, ?_⟩
  · refine Nat.le_trans (?_ : rv.toArray.size ≤ 1000) (by decide)
    have := hix.1
    simp only [List.size_toArray]; omega
  · intro b hb
    show b < (s.heap.push _).objs.size
    rw [Heap.size_push]
    rcases List.mem_cons.mp hb with rfl | hb
    · exact Nat.lt_succ_self _
    · rw [List.mem_singleton.mp hb]; exact Nat.lt_succ_of_lt hlt
  · intro C i v s₃ m₃ E' hC hP hn hm hk ht
    exact wpAny_tests_nil ⟨rfl, ⟨_, _, rfl, fun _ _ e => e⟩⟩
  · intro C i v s₃ m₃ E' hC hP _ hn hm hk ht
    obtain ⟨k, t, hk1, rfl⟩ := hix.2 i v (by simpa using hP)
    have hkl := hin k (List.mem_of_getElem? hk1)
    have old : ∀ b o, s.heap.get? b = some o → s₃.heap.get? b = some o := fun b o e => hk b o (fun q => by
      rw [List.mem_singleton.mp q] at e
      exact Nat.lt_irrefl _ (Heap.lt_size e)) (up b o e)
    have hl3 : s₃.heap.IsList l vs.toArray := hl.at fun _ e => old _ _ e
    refine wpAny_Subscript_Name (T := "list") slot_list_getitem.lookup (wpAny_Name (wpAny_loadName_cell (by simp [compEnvC, relabel, hkind]) hkX hcl ⟨o, old _ _ ho, hd⟩ (wpAny_Name (wpAny_loadName_local (by simp [compEnvC, relabel, hkind]) (lookup_relabel_local hx) hn hm ⟨hl3.typeIs, ?_⟩) hb1)) hb2)
    obtain ⟨y, hy⟩ : ∃ y, vs[k]? = some y := ⟨_, List.getElem?_eq_getElem hkl⟩
    exact wpAny_getItem_list hl3 (Int.natCast_nonneg k) (by omega) (by simpa using hy) ⟨⟨k, t, rfl, hy⟩, ⟨_, _, rfl, fun _ _ e => e⟩⟩
  · intro D h' tk ys vs' hD hy _ hvl' hP hF hk
    have e : vs' = rv := by
      apply List.ext_getElem?
      intro j
      cases hj : vs'[j]? with
      | none =>
        have : vs'.length ≤ j := List.getElem?_eq_none_iff.mp hj
        exact (List.getElem?_eq_none_iff.mpr (by simp at hvl'; omega)).symm
      | some v => exact (by simpa using (hP j v hj).symm)
    subst e
    rw [show vs'.filter (fun _ => true) = vs' from by simp] at hF
    have := paired_pick hF ix hix
    refine h D h' tk (fun b o e => hk b o (fun q => by
      rw [List.mem_singleton.mp q] at e
      exact Nat.lt_irrefl _ (Heap.lt_size e)) (up b o e)) ?_ (by rw [← this]; simpa using hy)
    cases z : s.heap.get? D with
    | none => rfl
    | some o => rw [up _ _ z] at hD; cases hD
end
end Mine
end
theorem Mine.anewFo : True := by
  w_top off
  exact trivial
section
open PySem PySem.W PySem.Calls PyProof.Rows
set_option Elab.async false
set_option maxRecDepth 100000
set_option linter.unusedVariables false
namespace Mine
section
variable {prog : Program} {w : World} {A : Around} {E : Value → Shared → Prop} {s : Shared} {env : Env}
/-- a loop over an iterator, with an invariant of states -/
theorem loop_walks {R : Result → Shared → Prop} {x : Str} {px : Pos} {body : List Stmt} {I : Addr} {fp wr : List Addr} {n : Nat} {P : Nat → Value → Prop} {St : Nat → Heap → Prop} (W : Walks prog w A I fp wr n P St) (Inv : Nat → Shared → Prop)
    (it : ∀ i s', Inv i s' → St i s'.heap) (start : Inv 0 s)
    (turn : ∀ i v s' h' tk E', i < n → Inv i s' → P i v → St (i + 1) h' → (∀ b o, b ∉ wr → s'.heap.get? b = some o → h'.get? b = some o) →
      wpAny (model prog w) A (storeName env x v) (fun _ s₂ => wpAny (model prog w) A (execs body env) (fun f s₃ => match f with
        | .next | .cont => Inv (i + 1) s₃
        | .brk => R (.ok .next) s₃
        | .ret v => R (.ok (.ret v)) s₃) E' s₂) E' { s' with heap := h', toks := tk })
    (done : ∀ s' h' tk, Inv n s' → (∀ b o, b ∉ wr → s'.heap.get? b = some o → h'.get? b = some o) → R (.ok .next) { s' with heap := h', toks := tk }) :
    codeAny (model prog w) A (.forLoop (.Name x px) (.ref I) body [] env) R s := by
  refine codeAny_forLoop_any (fun k s' => ∃ i, i ≤ n ∧ k = n - i ∧ Inv i s') ?_ n ⟨0, Nat.zero_le _, rfl, start⟩
  rintro k s' ⟨i, hi, rfl, hI⟩
  rcases Nat.lt_or_ge i n with hlt | hge
  · refine W.item i s' _ _ hlt (it i s' hI) fun v h' tk hP hst hk => ?_
    refine wpAny_of_eq (rfl : letOwnedTupleGo (.Name x px) (.ref I) v = pure ()) ?_
    refine wpAny_assign_Name (wpAny_mono (turn i v s' h' tk _ hlt hI hP hst hk) (fun _ s₂ h₂ => ?_) fun _ _ e => e)
    refine wpAny_mono h₂ (fun f s₃ h₃ => ?_) fun _ _ e => e
    cases f with
    | next => exact ⟨n - (i + 1), by omega, i + 1, hlt, rfl, h₃⟩
    | cont => exact ⟨n - (i + 1), by omega, i + 1, hlt, rfl, h₃⟩
    | brk => exact h₃
    | ret v => exact h₃
  · have e : i = n := Nat.le_antisymm hi hge
    subst e
    refine W.done s' _ _ (it _ s' hI) fun h' tk hk => ?_
    exact wpAny_execs_nil (done s' h' tk hI hk)

/-- a loop over a list -/
theorem for_list {x : Str} {px pos : Pos} {iter : Expr} {body : List Stmt} {r : Addr} {rv : List Value} {Q : Flow → Shared → Prop} (hA : A.handled = none) (hiter : ∀ Q' : Value → Shared → Prop, Q' (.ref r) s → wpAny (model prog w) A (eval iter env) Q' E s)
    (hr : s.heap.IsList r rv.toArray) (Inv : Addr → Nat → Shared → Prop)
    (it : ∀ I i s', Inv I i s' → s'.heap.IsListIter I r i ∧ s'.heap.IsList r rv.toArray)
    (start : ∀ I h', s.heap.objs.size ≤ I → (∀ b o, s.heap.get? b = some o → h'.get? b = some o) → h'.IsListIter I r 0 → h'.IsList r rv.toArray → Inv I 0 { s with heap := h' })
    (turn : ∀ I i v s' h' tk E', i < rv.length → Inv I i s' → rv[i]? = some v → h'.IsListIter I r (i + 1) → h'.IsList r rv.toArray → (∀ b o, b ≠ I → s'.heap.get? b = some o → h'.get? b = some o) →
      wpAny (model prog w) A (storeName env x v) (fun _ s₂ => wpAny (model prog w) A (execs body env) (fun f s₃ => match f with
        | .next | .cont => Inv I (i + 1) s₃
        | .brk => Q .next s₃
        | .ret v => Q (.ret v) s₃) E' s₂) E' { s' with heap := h', toks := tk })
    (done : ∀ I s' h' tk, Inv I rv.length s' → (∀ b o, b ≠ I → s'.heap.get? b = some o → h'.get? b = some o) → Q .next { s' with heap := h', toks := tk })
    (hs : ∀ x, foldedSetIterable iter env x = pure x := by intro _; rfl) :
    wpAny (model prog w) A (exec (.For (.Name x px) iter body [] pos) env) Q E s := by
  have hlt : r < s.heap.objs.size := by obtain ⟨_, e, _⟩ := hr; exact Heap.lt_size e
  refine wpAny_For (hiter _ (wpAny_pyIter_list hr ?_)) hs
  have W := Walks.list (prog := prog) (w := w) (A := A) hA s.heap.objs.size r (Nat.ne_of_lt hlt) rv.toArray
  rw [List.size_toArray] at W
  refine loop_walks W (Inv s.heap.objs.size) (fun i s' hI => it _ i s' hI) (start _ _ (Nat.le_refl _) (fun b o e => Heap.get?_push_of_some _ e) ⟨_, Heap.get?_push_size _ rfl, rfl, rfl⟩ (hr.push _)) (fun i v s' h' tk E' hi hI hP hst hk => ?_) (fun s' h' tk hI hk => ?_)
  · exact turn _ i v s' h' tk E' hi hI (by simpa using hP) hst.1 hst.2 fun b o hb e => hk b o (by simpa using hb) e
  · exact done _ s' h' tk hI fun b o hb e => hk b o (by simpa using hb) e
end
end Mine
namespace Mine
theorem fr_new {g h : Heap} {L I : Addr} {m : Str → Option Value} (F : Fr g L h m) (hI : h.objs.size ≤ I) : I ≠ L ∧ g.get? I = none := by
  have hL : L < h.objs.size := F.ns.lt
  exact ⟨fun q => Nat.lt_irrefl _ (Nat.lt_of_lt_of_le hL (q ▸ hI)), Heap.get?_none_of_le (Nat.le_trans F.above (Nat.le_trans (Nat.le_of_lt hL) hI))⟩
/-- values that are lists of indices -/
def RowsAre (h : Heap) (rvs : List Value) (rows : List (List Nat)) : Prop := rvs.length = rows.length ∧ ∀ (i : Nat) v, rvs[i]? = some v → ∃ r rv ix, v = .ref r ∧ h.IsList r rv.toArray ∧ rows[i]? = some ix ∧ IxAre rv ix
end Mine
namespace Mine
theorem ne_same {prog : Program} {w : World} {A : Around} {E : Value → Shared → Prop} {s : Shared} {l b : Addr} {items : Array Value} {Q : Value → Shared → Prop} (hl : s.heap.IsList l items) (hb : s.heap.IsList b items) (hu : A.units < cLine)
    (h : Q (.bool false) s) : wpAny (model prog w) A (compareOp .NotEq (.ref l) (.ref b)) Q E s := by
  refine SeqAt.RcNeAt.lists (e := fun _ => true) hl hb rfl hu (fun j _ _ => SeqAt.EqAt.same _) prog w E Q ?_
  have e : ∀ n : Nat, ((List.range n).all fun _ => true) = true := fun n => List.all_eq_true.mpr fun _ _ => rfl
  rw [e]
  exact h
/-- a list that was just made joins the ledger -/
theorem newList_add {g h h' : Heap} {L D : Addr} {m : Str → Option Value} {news : List (Addr × Obj)} {items : Array Value} (F : Fr g L h m) (N : News g L h' news) (hD : h.get? D = none) (hl : h'.IsList D items) :
    ∃ o, News g L h' ((D, o) :: news) ∧ o.cls = .type "list" ∧ ∃ n, o.data = .seq items n := by
  obtain ⟨o, ho, hc, n, hd⟩ := hl
  refine ⟨o, newsAdd N ho (fun q => ?_) ?_, hc, n, hd⟩
  · obtain ⟨oL, _, _, hL, _⟩ := F.ns
    rw [q, hL] at hD; cases hD
  · cases z : g.get? D with
    | none => rfl
    | some o => rw [F.keep _ _ z] at hD; cases hD
theorem isList_of {h : Heap} {D : Addr} {o : Obj} {items : Array Value} {n : Nat} (ho : h.get? D = some o) (hc : o.cls = .type "list") (hd : o.data = .seq items n) : h.IsList D items := ⟨o, ho, hc, n, hd⟩
/-- items picked out of exact numbers -/
theorem vx_pick {vs : List Value} {us : List Nm} {ms : List Int} (h : VxAre vs us ms) {ix : List Nat} (hin : ∀ k ∈ ix, k < vs.length) : VxAre (ix.map fun k => vs.getD k .none) (ix.map fun k => us.getD k (.i 0)) (ix.map fun k => ms.getD k 0) := by
  refine ⟨⟨by simp, fun i v hv => ?_⟩, by simp, fun i x hx => ?_⟩
  · rw [List.getElem?_map] at hv ⊢
    cases hk : ix[i]? with
    | none => rw [hk] at hv; cases hv
    | some k =>
      rw [hk] at hv
      have hlt := hin k (List.mem_of_getElem? hk)
      obtain ⟨u, m, h1, h2, h3, h4⟩ := vx_at h (List.getElem?_eq_getElem hlt)
      refine ⟨u, by simp [List.getD_eq_getElem?_getD, h1], ?_⟩
      have e : vs.getD k .none = v := Option.some.inj hv
      rw [← e, List.getD_eq_getElem?_getD, List.getElem?_eq_getElem hlt]
      exact h3
  · rw [List.getElem?_map] at hx ⊢
    cases hk : ix[i]? with
    | none => rw [hk] at hx; cases hx
    | some k =>
      rw [hk] at hx
      have hlt := hin k (List.mem_of_getElem? hk)
      obtain ⟨u, m, h1, h2, h3, h4⟩ := vx_at h (List.getElem?_eq_getElem hlt)
      refine ⟨m, by simp [List.getD_eq_getElem?_getD, h2], ?_⟩
      have e : us.getD k (.i 0) = x := Option.some.inj hx
      rw [← e, List.getD_eq_getElem?_getD, h1]
      exact h4
end Mine
namespace Mine
theorem sum_take : ∀ (ts : List Int) (i : Nat) (t : Int), ts[i]? = some t → sumI (ts.take (i + 1)) = sumI (ts.take i) + t
  | [], _, _, h => by simp at h
  | x :: ts, 0, t, h => by
    simp at h
    subst h
    simp [sumI]
  | x :: ts, i + 1, t, h => by
    have ih := sum_take ts i t (by simpa using h)
    show x + sumI (ts.take (i + 1)) = x + sumI (ts.take i) + t
    rw [ih, Int.add_assoc]
theorem sumA_take : ∀ (ts : List Int) (i : Nat), sumA (ts.take i) ≤ sumA ts
  | [], i => by simp [sumA]
  | x :: ts, 0 => Nat.zero_le _
  | x :: ts, i + 1 => Nat.add_le_add_left (sumA_take ts i) _
theorem sm_take {ts : List Int} (i : Nat) (h : sumA ts ≤ 2 ^ 53) : Sm (sumI (ts.take i)) := Nat.le_trans (sumI_le _) (Nat.le_trans (sumA_take ts i) h)
end Mine
namespace Mine
/-- the ledger behind a call that may have let a code's table grow -/
theorem after57 {g h h9 : Heap} {L : Addr} {m : Str → Option Value} {news l : List (Addr × Obj)} {ps ps9 : Array Value} (F : Fr g L h m) (N : News g L h news) (k9 : ∀ b o, b ≠ 57 → h.get? b = some o → h9.get? b = some o)
    (nT : h.get? 57 = some (tabObj ps)) (hT9 : h9.get? 57 = some (tabObj ps9)) (hL57 : (57 : Nat) ≠ L) (hg57 : g.get? 57 = none) (hq : ∀ q ∈ l, q ∈ news ∧ (q.2.data ≠ .fields ps ∨ q.2.cls ≠ .none)) : Fr g L h9 m ∧ News g L h9 ((57, tabObj ps9) :: l) := by
  refine ⟨frBut (P := [57]) F (fun b o hb e => k9 b o (by simpa using hb) e) (by simpa using Ne.symm hL57) (fun b hb => by rw [List.mem_singleton.mp hb]; exact hg57), fun q hq' => ?_⟩
  rcases List.mem_cons.mp hq' with rfl | hm
  · exact ⟨hT9, hL57, hg57⟩
  · obtain ⟨h1, h2⟩ := hq q hm
    have n := N q h1
    refine ⟨k9 _ _ (fun z => ?_) n.1, n.2⟩
    have e := n.1
    rw [z, nT] at e
    have e2 := Option.some.inj e
    rw [← e2] at h2
    rcases h2 with h2 | h2
    · exact h2 rfl
    · exact h2 rfl
/-- a ledger whose iterator has moved -/
theorem afterIter {g h h1 : Heap} {L I : Addr} {m : Str → Option Value} {news l : List (Addr × Obj)} {oI oI' : Obj} (F : Fr g L h m) (N : News g L h news) (k : ∀ b o, b ≠ I → h.get? b = some o → h1.get? b = some o)
    (nI : (I, oI) ∈ news) (hI : h1.get? I = some oI') (hq : ∀ q ∈ l, q ∈ news ∧ q.1 ≠ I) : Fr g L h1 m ∧ News g L h1 ((I, oI') :: l) := by
  have n := N _ nI
  refine ⟨frBut (P := [I]) F (fun b o hb e => k b o (by simpa using hb) e) (by simpa using Ne.symm n.2.1) (fun b hb => by rw [List.mem_singleton.mp hb]; exact n.2.2), fun q hq' => ?_⟩
  rcases List.mem_cons.mp hq' with rfl | hm
  · exact ⟨hI, n.2⟩
  · obtain ⟨h1, h2⟩ := hq q hm
    exact ⟨k _ _ h2 (N q h1).1, (N q h1).2⟩
end Mine
end
theorem Mine.anewLsum : True := by
  w_top off
  exact trivial
section
open PySem PySem.W PyProof.Rows PySem.Calls
set_option Elab.async false
set_option maxRecDepth 100000
set_option maxHeartbeats 8000000

set_option linter.unusedVariables false
namespace Mine

/-- the turns of _law_sum's loop -/
structure LsInv (s : Shared) (g : Heap) (L r : Addr) (rvs : List Value) (oX oY : Obj) (ts : List Int) (I : Addr) (i : Nat) (s' : Shared) : Prop where
  drawn : s'.drawn = s.drawn
  os : s'.os = s.os
  bare : GBare s.gens s'.gens
  fr : ∃ m tv k, Fr g L s'.heap m ∧ m "total" = some tv ∧ NmIs tv k ∧ Nx k (sumI (ts.take i)) ∧ (0 < i → ∃ x t, tv = .float x t)
  news : ∃ ps oI, News g L s'.heap [(57, tabObj ps), (L + 1 + 1, oY), (L + 1, oX), (I, oI)] ∧ TriplesOk ps.toList
  ne : I ≠ 57 ∧ I ≠ L + 1 + 1 ∧ I ≠ L + 1
  it : s'.heap.IsListIter I r i
  lst : s'.heap.IsList r rvs.toArray

theorem lsum {w : World} {p : Program} {loose : List Str} {mean : ExcName → Option Value} {mg mb : Str → Option Value} {dp un : Nat} {gd : Option (List Code)} {cn : Str} {cs : Scope} {L a : Addr} {ccd : Value} {cl : List (Str × Addr)} {outer : List Env} {base : Heap} {s : Shared} {Q E : Value → Shared → Prop}
   (K0 : Below (ktrTop dp un gd cn cs L a ccd cl outer) base (envX cn cs L a ccd cl :: outer) s.heap) (hmb : ∀ b ∈ [57], base.get? b = none ∧ b ∉ frs (envX cn cs L a ccd cl :: outer)) (X : (hd1.heap_39 w.params).In base) (T : Top p loose mean mg mb base)
   (C : CodeHd base 61 57) (hT : Tab s.heap 61 57)
   {x y R : Addr} {vs ws rvs : List Value} {us zs : List Nm} {ms ks : List Int} {n : Nat} {rows : List (List Nat)} {ts : List Int} {res : Int} (hx : s.heap.IsList x vs.toArray) (hy : s.heap.IsList y ws.toArray) (hR : s.heap.IsList R rvs.toArray)
   (hu : VxAre vs us ms) (hz : VxAre ws zs ks) (hrows : RowsAre s.heap rvs rows) (hts : ts.length = rows.length) (hbt : sumA ts ≤ 2 ^ 53) (hvl : vs.length ≤ 100) (hwl : ws.length = vs.length)
   (hcov : ∀ (i : Nat) ix t, rows[i]? = some ix → ts[i]? = some t → (∀ k ∈ ix, k < vs.length) ∧ 2 ≤ ix.length ∧ ix.length ≤ 16 ∧ CovM (ix.map fun k => ms.getD k 0) (ix.map fun k => ks.getD k 0) ix.length t) (hne : 0 < rows.length)
   (hroom : dp + 9 < recursionLimit) (hun : un + 30 < cLine)
   (ret : ∀ s' r t, Ex r (sumI ts) → (∀ b o, b ≠ 57 → s.heap.get? b = some o → s'.heap.get? b = some o) → Tab s'.heap 61 57 → GBare s.gens s'.gens → s'.drawn = s.drawn → s'.os = s.os → Q (.float r t) s') :
   wpAny (model PySem.Challenge.rw_kp0013_01.row.prog w) (ktrTop dp un gd cn cs L a ccd cl outer) (call (.ref 67) [.ref x, .ref y, .ref R]) Q E s := by
  revert X; k_fill; intro X
  refine wpAny_call ?_
  refine' enter_cells2 (binds := [("xs", .ref x), ("ys", .ref y), ("rows", .ref R)]) K0 hmb X T ?ho ?hcd ?hroom ?hbind ?hkind ?hnd ?_ ?c1 ?c2 ?c3
  case ho => k_is
  case hcd => k_is
  case hroom => ktr_room
  case hbind => exact BindsTo.of_eq rfl
  case hkind => exact rfl
  case hnd => decide +kernel
  case c1 => exact rfl
  case c2 => exact rfl
  case c3 => exact rfl
  intro g L' h₁ tk cells F N Y B Xg Tg Kp hmg hkeep hL'
  k_cells Y
  rename_i oY oX dY dX
  replace dX : oX.data = .cell (some (.ref x)) := dX
  replace dY : oY.data = .cell (some (.ref y)) := dY
  (try simp only [List.cons_append, List.nil_append] at N)
  (try dsimp only)
  obtain ⟨ps, hTc, hTt⟩ := hT
  have htr : TriplesOk ps.toList := triples_of hTc
  have h57 : s.heap.get? 57 = some (tabObj ps) := hTt.2
  have hL57 : (57 : Nat) ≠ L' := fun q => by
    have := Heap.lt_size h57
    rw [q, hL'] at this
    exact Nat.lt_irrefl _ this
  have hg57 : g.get? 57 = none := hmg 57 (by simp)
  replace N := newsAdd N (show h₁.get? 57 = some (tabObj ps) from hkeep _ _ h57) hL57 hg57
  have ne57 : ∀ {z : Addr} {o : Obj}, s.heap.get? z = some o → o.cls ≠ .none → z ≠ 57 := fun ho hc q => by
    rw [q, h57] at ho; cases ho; exact hc rfl
  have lst57 : ∀ {z : Addr} {l : Array Value}, s.heap.IsList z l → g.IsList z l := fun hl => by
    obtain ⟨o, ho, hc, r⟩ := hl
    exact ⟨o, Kp _ _ (by simpa using ne57 ho (by rw [hc]; nofun)) ho, hc, r⟩
  replace hx := lst57 hx
  replace hy := lst57 hy
  have hRg := lst57 hR
  have hC : CodeHd g 61 57 := C.keeps B.stays
  have hid := And.intro X (And.intro T C)
  clear hkeep hL' K0 X T hTc hTt C
  (repeat' ((fail_if_success (with_reducible first | show wpAny _ _ (call (Value.ref _) _) _ _ _ | show wpAny _ _ (eval (Expr.ListComp _ _ _ _) _) _ _ _)); first | (exfalso; omega) | (k_unfold; (try dsimp only)) | walk1 | (dsimp only; walk1) | (leave1; walk_say "STEP leave1"; try dsimp only)))
  rename Fr _ _ _ _ => F
  rename News _ _ _ _ => N
  refine for_list rfl (r := R) (rv := rvs) ?iter (hRg.at fun _ e => F.keep _ _ e) (LsInv s g L' R rvs oX oY ts) (fun I i s' h => ⟨h.it, h.lst⟩) ?start ?turn ?done
  case iter => exact fun Q' h => nameX_L F (by rfl) h
  case start =>
    intro I h' hI hk hit hl
    obtain ⟨hIL, hIg⟩ := fr_new F hI
    have hit' := hit
    obtain ⟨oI, hoI, _⟩ := hit
    have out : ∀ q ∈ [((57 : Addr), tabObj ps), (L' + 1 + 1, oY), (L' + 1, oX)], I ≠ q.1 := fun q hq e => Nat.lt_irrefl _ (Nat.lt_of_lt_of_le (Heap.lt_size (N q hq).1) (e ▸ hI))
    have out1 := out _ (List.mem_cons_self ..)
    have out2 := out _ (List.mem_cons_of_mem _ (List.mem_cons_self ..))
    have out3 := out _ (List.mem_cons_of_mem _ (List.mem_cons_of_mem _ (List.mem_cons_self ..)))
    refine ⟨rfl, rfl, gbare_refl _, ⟨_, _, .i 0, frKeep F hk, rfl, ⟨_, rfl⟩, by simp [Nx, sumI], fun h => absurd h (Nat.lt_irrefl _)⟩, ⟨ps, oI, ?_, htr⟩, ⟨out1, out2, out3⟩, hit', hl⟩
    intro q hq
    have N' := newsKeep N hk
    simp only [List.mem_cons, List.not_mem_nil, or_false] at hq
    rcases hq with rfl | rfl | rfl | rfl
    · exact N' _ (by simp)
    · exact N' _ (by simp)
    · exact N' _ (by simp)
    · exact ⟨hoI, hIL, hIg⟩
  case turn =>
    clear F N
    intro I i v s' h' tk' E' hi hInv hv hit hl hk
    obtain ⟨dr, os, ba, ⟨m, tv, k, F, hmt, htv, hnx, hfl⟩, ⟨ps, oI, N, htr⟩, ⟨ne1, ne2, ne3⟩, _, _⟩ := hInv
    obtain ⟨s'h, s'g, s'd, s't, s'o⟩ := s'
    dsimp only at *
    subst dr os
    have nI := N (I, oI) (by simp)
    have F1 : Fr g L' h' m := frBut (P := [I]) F (fun b o hb e => hk b o (by simpa using hb) e) (by simpa using Ne.symm nI.2.1) (fun b hb => by rw [List.mem_singleton.mp hb]; exact nI.2.2)
    have hm : m = fun (y : Str) => if y = "total" then some tv else m y := by
      funext y
      by_cases h : y = "total"
      · rw [if_pos h, h, hmt]
      · rw [if_neg h]
    rw [hm] at F1
    have hit' := hit
    obtain ⟨oI', hoI', hcI, hdI⟩ := hit
    have N1 : News g L' h' [(57, tabObj ps), (L' + 1 + 1, oY), (L' + 1, oX), (I, oI')] := by
      intro q hq
      simp only [List.mem_cons, List.not_mem_nil, or_false] at hq
      rcases hq with rfl | rfl | rfl | rfl
      · have n := N (57, tabObj ps) (by simp); exact ⟨hk _ _ (Ne.symm ne1) n.1, n.2⟩
      · have n := N (L' + 1 + 1, oY) (by simp); exact ⟨hk _ _ (Ne.symm ne2) n.1, n.2⟩
      · have n := N (L' + 1, oX) (by simp); exact ⟨hk _ _ (Ne.symm ne3) n.1, n.2⟩
      · exact ⟨hoI', nI.2⟩
    obtain ⟨r, rv, ix, rfl, hr, hix, hrv⟩ := hrows.2 i v hv
    clear F N hk
    (repeat' ((fail_if_success (with_reducible first | show wpAny _ _ (call (Value.ref _) _) _ _ _ | show wpAny _ _ (eval (Expr.ListComp _ _ _ _) _) _ _ _)); first | (exfalso; omega) | (k_unfold; (try dsimp only)) | walk1 | (dsimp only; walk1) | (leave1; walk_say "STEP leave1"; try dsimp only)))
    rename Fr _ _ _ _ => F
    rename News _ _ _ _ => N
    have hrg := lst57 hr
    have nX := N (L' + 1, oX) (by simp)
    have nY := N (L' + 1 + 1, oY) (by simp)
    obtain ⟨t, ht⟩ : ∃ t, ts[i]? = some t := ⟨_, List.getElem?_eq_getElem (by have := hrows.1; omega)⟩
    obtain ⟨hin, h2, h16, hM⟩ := hcov i ix t hix ht
    refine lc_pick (cl := [("xs", L' + 1)]) (c := L' + 1) (l := x) (vs := vs) (rv := rv) (ix := ix) rfl (fun Q' h => nameX_L F (by rfl) h) (hrg.at fun _ e => F.keep _ _ e) hrv hin (by omega) (by omega) nX.1 dX (hx.at fun _ e => F.keep _ _ e) ?_
    intro D1 h1 tk1 k1 nD1 l1
    replace N := newsKeep N k1
    obtain ⟨oD1, N, cD1, nn1, dD1⟩ := newList_add F N nD1 l1
    replace F := frKeep F k1
    (repeat' ((fail_if_success (with_reducible first | show wpAny _ _ (call (Value.ref _) _) _ _ _ | show wpAny _ _ (eval (Expr.ListComp _ _ _ _) _) _ _ _)); first | (exfalso; omega) | (k_unfold; (try dsimp only)) | walk1 | (dsimp only; walk1) | (leave1; walk_say "STEP leave1"; try dsimp only)))
    refine lc_pick (cl := [("ys", L' + 1 + 1)]) (c := L' + 1 + 1) (l := y) (vs := ws) (rv := rv) (ix := ix) rfl (fun Q' h => nameX_L F (by rfl) h) (hrg.at fun _ e => F.keep _ _ e) hrv (fun k hk => by rw [hwl]; exact hin k hk) (by omega) (by omega) (k1 _ _ nY.1) dY (hy.at fun _ e => F.keep _ _ e) ?_
    intro D2 h2' tk2 k2 nD2 l2
    replace N := newsKeep N k2
    obtain ⟨oD2, N, cD2, nn2, dD2⟩ := newList_add F N nD2 l2
    replace F := frKeep F k2
    (repeat' ((fail_if_success (with_reducible first | show wpAny _ _ (call (Value.ref _) _) _ _ _ | show wpAny _ _ (eval (Expr.ListComp _ _ _ _) _) _ _ _)); first | (exfalso; omega) | (k_unfold; (try dsimp only)) | walk1 | (dsimp only; walk1) | (leave1; walk_say "STEP leave1"; try dsimp only)))
    rename Fr _ _ _ _ => F
    rename News _ _ _ _ => N
    obtain ⟨X, T, C⟩ := hid
    have nT := (N (57, tabObj ps) (by simp)).1
    have n1 := N (D1, oD1) (by simp)
    have n2 := N (D2, oD2) (by simp)
    refine cov (pushX B F rfl rfl) ?hmb X T C (tabOf hC F nT htr) (isList_of n1.1 cD1 dD1) (isList_of n2.1 cD2 dD2) (vx_pick hu hin) (vx_pick hz (fun k hk => by rw [hwl]; exact hin k hk)) h2 h16 hM ?room ?un ?ret
    case hmb =>
      intro b hb
      rw [List.mem_singleton.mp hb]
      refine ⟨(hmb 57 (by simp)).1, fun q => ?_⟩
      rcases List.mem_cons.mp q with q | q
      · exact hL57 q
      · exact (hmb 57 (by simp)).2 q
    case room => show dp + 1 + 8 < recursionLimit; omega
    case un => show un + 3 + 8 < cLine; omega
    case ret =>
      intro s9 r9 t9 hr9 k9 hT9 gb9 dr9 os9
      obtain ⟨h9, g9, d9, tk9, o9⟩ := s9
      dsimp only at k9 hT9 gb9 dr9 os9
      obtain ⟨ps9, hT9c, hT9t⟩ := hT9
      have htr9 := triples_of hT9c
      have F9 := frBut (P := [57]) F (fun b o hb e => k9 b o (by simpa using hb) e) (by simpa using Ne.symm hL57) (fun b hb => by rw [List.mem_singleton.mp hb]; exact hg57)
      have nI' := N (I, oI') (by simp)
      have n1' : ∀ {z : Addr} {o : Obj}, (h9 : Heap).get? 57 = some (tabObj ps9) → True := fun _ => trivial
      have N9 : News g L' h9 [(57, tabObj ps9), (L' + 1 + 1, oY), (L' + 1, oX), (I, oI'), (D1, oD1), (D2, oD2)] := by
        intro q hq
        simp only [List.mem_cons, List.not_mem_nil, or_false] at hq
        have nn := nT
        rcases hq with rfl | rfl | rfl | rfl | rfl | rfl
        · exact ⟨hT9t.2, hL57, hg57⟩
        · exact ⟨k9 _ _ (cell_ne (N (L' + 1 + 1, oY) (by simp)).1 nT dY) (N (L' + 1 + 1, oY) (by simp)).1, nY.2⟩
        · exact ⟨k9 _ _ (cell_ne (N (L' + 1, oX) (by simp)).1 nT dX) (N (L' + 1, oX) (by simp)).1, nX.2⟩
        · exact ⟨k9 _ _ ne1 nI'.1, nI'.2⟩
        · exact ⟨k9 _ _ (fun q => ne_of_cls n1.1 nT (by rw [cD1]; nofun) q) n1.1, n1.2⟩
        · exact ⟨k9 _ _ (fun q => ne_of_cls n2.1 nT (by rw [cD2]; nofun) q) n2.1, n2.2⟩
      subst dr9 os9
      have hid := And.intro X (And.intro T C)
      clear X T C N F
      (repeat' ((fail_if_success (with_reducible first | show wpAny _ _ (call (Value.ref _) _) _ _ _ | show wpAny _ _ (eval (Expr.ListComp _ _ _ _) _) _ _ _)); first | (exfalso; omega) | (k_unfold; (try dsimp only)) | walk1 | (dsimp only; walk1) | (leave1; walk_say "STEP leave1"; try dsimp only)))
      rename Fr _ _ _ _ => F
      rename News _ _ _ _ => N
      have nX := N (L' + 1, oX) (by simp)
      have nY := N (L' + 1 + 1, oY) (by simp)
      refine lc_pick (cl := [("xs", L' + 1)]) (c := L' + 1) (l := x) (vs := vs) (rv := rv) (ix := ix) rfl (fun Q' h => nameX_L F (by rfl) h) (hrg.at fun _ e => F.keep _ _ e) hrv hin (by omega) (by omega) nX.1 dX (hx.at fun _ e => F.keep _ _ e) ?_
      intro D3 h3 tk3 k3 nD3 l3
      replace F := frKeep F k3
      replace N := newsKeep N k3
      refine ne_same (isList_of (N (D1, oD1) (by simp)).1 cD1 dD1) l3 (by show un + 3 < cLine; omega) ?_
      (repeat' ((fail_if_success (with_reducible first | show wpAny _ _ (call (Value.ref _) _) _ _ _ | show wpAny _ _ (eval (Expr.ListComp _ _ _ _) _) _ _ _)); first | (exfalso; omega) | (k_unfold; (try dsimp only)) | walk1 | (dsimp only; walk1) | (leave1; walk_say "STEP leave1"; try dsimp only)))
      rename Fr _ _ _ _ => F
      rename News _ _ _ _ => N
      have nY := N (L' + 1 + 1, oY) (by simp)
      refine lc_pick (cl := [("ys", L' + 1 + 1)]) (c := L' + 1 + 1) (l := y) (vs := ws) (rv := rv) (ix := ix) rfl (fun Q' h => nameX_L F (by rfl) h) (hrg.at fun _ e => F.keep _ _ e) hrv (fun k hk => by rw [hwl]; exact hin k hk) (by omega) (by omega) nY.1 dY (hy.at fun _ e => F.keep _ _ e) ?_
      intro D4 h4 tk4 k4 nD4 l4
      replace F := frKeep F k4
      replace N := newsKeep N k4
      refine ne_same (isList_of (N (D2, oD2) (by simp)).1 cD2 dD2) l4 (by show un + 3 < cLine; omega) ?_
      (repeat' ((fail_if_success (with_reducible first | show wpAny _ _ (call (Value.ref _) _) _ _ _ | show wpAny _ _ (eval (Expr.ListComp _ _ _ _) _) _ _ _)); first | (exfalso; omega) | (k_unfold; (try dsimp only)) | walk1 | (dsimp only; walk1) | (leave1; walk_say "STEP leave1"; try dsimp only)))
      have hsum : sumI (ts.take (i + 1)) = sumI (ts.take i) + t := sum_take ts i t ht
      have hsm1 : Sm (sumI (ts.take i)) := sm_take i hbt
      have hsm2 : Sm (sumI (ts.take i) + t) := hsum ▸ sm_take (i + 1) hbt
      refine ox_iadd_nf rfl htv hnx hsm1 hr9 hsm2 ?_
      intro r10 t10 hr10
      (repeat' ((fail_if_success (with_reducible first | show wpAny _ _ (call (Value.ref _) _) _ _ _ | show wpAny _ _ (eval (Expr.ListComp _ _ _ _) _) _ _ _)); first | (exfalso; omega) | (k_unfold; (try dsimp only)) | walk1 | (dsimp only; walk1) | (leave1; walk_say "STEP leave1"; try dsimp only)))
      rename Fr _ _ _ _ => F
      rename News _ _ _ _ => N
      refine ⟨rfl, rfl, gbare_trans _ _ _ ba gb9, ⟨_, _, .f r10, F, rfl, ⟨_, rfl⟩, (by rw [hsum]; exact hr10), fun _ => ⟨_, _, rfl⟩⟩, ⟨ps9, oI', newsSub N (by intro q hq; simp only [List.mem_cons, List.not_mem_nil, or_false] at hq ⊢; rcases hq with rfl | rfl | rfl | rfl <;> simp), htr9⟩, ⟨ne1, ne2, ne3⟩, ⟨oI', (N (I, oI') (by simp)).1, hcI, hdI⟩, hRg.at fun _ e => F.keep _ _ e⟩
  case done =>
    clear F N
    intro I s' h' tk' hInv hk
    obtain ⟨dr, os, ba, ⟨m, tv, k, F, hmt, htv, hnx, hfl⟩, ⟨ps, oI, N, htr⟩, ⟨ne1, ne2, ne3⟩, _, _⟩ := hInv
    obtain ⟨s'h, s'g, s'd, s't, s'o⟩ := s'
    dsimp only at *
    subst dr os
    have nI := N (I, oI) (by simp)
    have F1 : Fr g L' h' m := frBut (P := [I]) F (fun b o hb e => hk b o (by simpa using hb) e) (by simpa using Ne.symm nI.2.1) (fun b hb => by rw [List.mem_singleton.mp hb]; exact nI.2.2)
    have n57 := N (57, tabObj ps) (by simp)
    have N1 : News g L' h' [(57, tabObj ps)] := newsAdd (fun _ h => nomatch h) (hk _ _ (Ne.symm ne1) n57.1) hL57 hg57
    obtain ⟨rx, rt, rfl⟩ := hfl (by have := hrows.1; omega)
    have hm : m = fun (y : Str) => if y = "total" then some (Value.float rx rt) else m y := by
      funext y
      by_cases h : y = "total"
      · rw [if_pos h, h, hmt]
      · rw [if_neg h]
    rw [hm] at F1
    clear F N
    (repeat' ((fail_if_success (with_reducible first | show wpAny _ _ (call (Value.ref _) _) _ _ _ | show wpAny _ _ (eval (Expr.ListComp _ _ _ _) _) _ _ _)); first | (exfalso; omega) | (k_unfold; (try dsimp only)) | walk1 | (dsimp only; walk1) | (leave1; walk_say "STEP leave1"; try dsimp only)))
    have e : ts.take rvs.length = ts := List.take_of_length_le (by have := hrows.1; omega)
    rw [e] at hnx
    cases k with
    | i n => obtain ⟨_, h⟩ := htv; cases h
    | f x =>
      obtain ⟨_, h⟩ := htv
      cases h
      refine ret _ _ _ hnx (fun b o hb e => F1.keep _ _ (Kp b o (by simpa using hb) e)) (tabOf hC F1 (N1 _ List.mem_cons_self).1 htr) ba rfl rfl
end Mine
end
theorem Mine.anewLc2 : True := by
  w_top off
  exact trivial
section
open PySem PySem.W PySem.Calls PyProof.Rows
set_option Elab.async false
set_option maxRecDepth 100000
set_option linter.unusedVariables false
namespace Mine
/-- the value is an index with a set bit -/
def bitOf (mask : Nat) (v : Value) : Bool := match v with
  | .int k _ => mask / 2 ^ k.toNat % 2 == 1
  | _ => false
def samples (n : Nat) : List (List Nat) := (List.range (2 ^ n)).map fun mask => (List.range n).filter fun i => mask / 2 ^ i % 2 == 1

theorem paired_eq {vs ys : List Value} (p : Paired (fun v y => y = v) vs ys) : ys = vs := by
  induction p with
  | nil => rfl
  | cons h _ ih => rw [h, ih]
theorem ix_cons {v : Value} {rv : List Value} {ix : List Nat} (h : IxAre (v :: rv) ix) : ∃ k t ix', ix = k :: ix' ∧ v = .int (k : Nat) t ∧ IxAre rv ix' := by
  cases ix with
  | nil => have := h.1; simp at this
  | cons k ix' =>
    obtain ⟨k', t, e, hv⟩ := h.2 0 v rfl
    cases e
    exact ⟨k, t, ix', rfl, hv, by simpa using h.1, fun i v hv => h.2 (i + 1) v (by simpa using hv)⟩
theorem ixCons {k : Nat} {t : Tok} {rv : List Value} {ix : List Nat} (h : IxAre rv ix) : IxAre (.int (k : Nat) t :: rv) (k :: ix) :=
  ⟨by simpa using h.1, fun i v hv => by
    cases i with
    | zero => simp at hv; exact ⟨k, t, rfl, hv.symm⟩
    | succ i => simp at hv; exact h.2 i v hv⟩
theorem ix_filter {mask : Nat} : ∀ (rv : List Value) (ix : List Nat), IxAre rv ix → IxAre (rv.filter (bitOf mask)) (ix.filter fun i => mask / 2 ^ i % 2 == 1)
  | [], ix, h => by
    have : ix = [] := List.eq_nil_of_length_eq_zero h.1.symm
    subst this
    exact h
  | v :: rv, ix, h => by
    obtain ⟨k, t, ix', rfl, rfl, h'⟩ := ix_cons h
    have ih := ix_filter (mask := mask) rv ix' h'
    have e : bitOf mask (.int (k : Nat) t) = (mask / 2 ^ k % 2 == 1) := by simp [bitOf]
    rw [List.filter_cons, List.filter_cons, e]
    split
    · exact ixCons ih
    · exact ih
section
variable {prog : Program} {w : World} {A : Around} {E : Value → Shared → Prop} {s : Shared}
theorem lc_bits {env : Env} {i mk : Str} {iter : Expr} {p0 p1 p2 p3 p4 p5 p6 p7 p8 p9 px pos : Pos} {k1 k2 k3 : Nat} {scope : Scope} {cl : List (Str × Addr)} {c r : Addr} {rv : List Value} {n mask : Nat} {t : Tok} {o : Obj} {Q : Value → Shared → Prop}
    (hA : A.handled = none) (hiter : ∀ Q' : Value → Shared → Prop, Q' (.ref r) s → wpAny (model prog w) A (eval iter env) Q' E s) (hr : s.heap.IsList r rv.toArray) (hix : IxAre rv (List.range n)) (hn : n ≤ 6) (hmask : mask < 2 ^ n)
    (ho : s.heap.get? c = some o) (hd : o.data = .cell (some (.int (mask : Nat) t)))
    (h : ∀ D h' tk ys, (∀ b o, s.heap.get? b = some o → h'.get? b = some o) → s.heap.get? D = none → h'.IsList D ys.toArray → IxAre ys ((List.range n).filter fun i => mask / 2 ^ i % 2 == 1) → Q (.ref D) { s with heap := h', toks := tk })
    (hcl : cl.lookup mk = some c) (hkm : (relabel scope env).names.lookup mk = some .cell)
    (hclos : closureFor scope env = pure cl) (hcell : ∀ y ∈ scope.names, y.2 ≠ .cell) (hkind : scope.kind = .function)
    (hnames : ∀ y ∈ scope.names, y.2 = .local → scope.names.lookup y.1 = some .local) (hx : scope.names.lookup i = some .local) (hb1 : (i == ("__debug__" : Str)) = false) (hb2 : (mk == ("__debug__" : Str)) = false)
    (hs : ∀ x, foldedSetIterable iter env x = pure x) :
    wpAny (model prog w) A (eval (.ListComp (.Name i p0) [⟨.Name i px, iter, [.Compare (.BinOp (.BinOp (.Name mk p1) .FloorDiv (.BinOp (.Constant (.int 2) k1 p2) .Pow (.Name i p3) p4) p5) .Mod (.Constant (.int 2) k2 p6) p7) [.Eq] [.Constant (.int 1) k3 p8] p9], 0⟩] scope pos) env) Q E s := by
  have hlt : r < s.heap.objs.size := by obtain ⟨_, e, _⟩ := hr; exact Heap.lt_size e
  refine wpAny_ListComp_free (bitOf mask) (fun v y => y = v) hclos hcell hkind hnames hx (hiter _ (wpAny_pyIter_list hr ?_)) hs
  have up : ∀ b o, s.heap.get? b = some o → (s.heap.push { cls := .type "list_iterator", data := .fields #[.ref r, .int 0 0] }).get? b = some o := fun b o e => Heap.get?_push_of_some _ e
  have hl : rv.length = n := by have := hix.1; simpa using this
  refine ⟨_, [s.heap.objs.size, r], [s.heap.objs.size], rv.toArray.size, _, _, rfl, Walks.list hA s.heap.objs.size r (Nat.ne_of_lt hlt) rv.toArray, ?_, ⟨⟨_, Heap.get?_push_size _ rfl, rfl, rfl⟩, hr.push _⟩, ?_, ⟨?_, ?_⟩, ?_⟩
  · refine Nat.le_trans (?_ : rv.toArray.size ≤ 6) (by decide)
    simp only [List.size_toArray]; omega
  · intro b hb
    show b < (s.heap.push _).objs.size
    rw [Heap.size_push]
    rcases List.mem_cons.mp hb with rfl | hb
    · exact Nat.lt_succ_self _
    · rw [List.mem_singleton.mp hb]; exact Nat.lt_succ_of_lt hlt
  · intro C j v s₃ m₃ E' hC hP hn' hm hk ht
    obtain ⟨k, tv, hk1, rfl⟩ := hix.2 j v (by simpa using hP)
    have hkn : k < n := by have := List.mem_of_getElem? hk1; simpa using this
    have old : ∀ b o, s.heap.get? b = some o → s₃.heap.get? b = some o := fun b o e => hk b o (fun q => by
      rw [List.mem_singleton.mp q] at e
      exact Nat.lt_irrefl _ (Heap.lt_size e)) (up b o e)
    have hkf : (compEnvC scope cl C env).scope.kind = .function := by simp [compEnvC, relabel, hkind]
    refine wpAny_tests_one (wpAny_isTrue_Compare1 (wpAny_BinOp (wpAny_BinOp (wpAny_Name (wpAny_loadName_cell hkf hkm hcl ⟨o, old _ _ ho, hd⟩ (wpAny_BinOp (wpAny_Constant_int (wpAny_Name (wpAny_loadName_local hkf (lookup_relabel_local hx) hn' hm ?_) hb1)))) hb2))))
    refine pow_int_small (Int.natCast_nonneg k) (by omega) (by decide) ?_
    have hp : ((2 : Int) ^ ((k : Int)).toNat) = ((2 ^ k : Nat) : Int) := by rw [Int.toNat_natCast, pow_cast]
    rw [hp]
    have hpos := Nat.two_pow_pos k
    have hsm : 2 ^ k ≤ 2 ^ 6 := Nat.pow_le_pow_right (by decide) (by omega)
    refine floordiv_int (by omega) ?_ (Or.inl (PyProof.noPylong_small (by rw [Int.natAbs_natCast]; omega)))
    refine wpAny_Constant_int (mod_int (by decide) (wpAny_Constant_int (eq_int ?_)))
    refine wpAny_truthy_bool ?_
    refine ⟨?_, ⟨_, _, rfl, fun _ _ e => e⟩⟩
    show ((((mask : Nat) : Int).fdiv ((2 ^ k : Nat) : Int)).fmod 2 == 1) = (mask / 2 ^ ((k : Int)).toNat % 2 == 1)
    rw [Int.toNat_natCast, Int.fdiv_eq_ediv_of_nonneg _ (by omega), Int.fmod_eq_emod_of_nonneg _ (by omega)]
    have : ((mask : Int) / ((2 ^ k : Nat) : Int)) % 2 = ((mask / 2 ^ k % 2 : Nat) : Int) := by omega
    rw [this]
    by_cases hq : mask / 2 ^ k % 2 = 1
    · rw [hq]; rfl
    · have h0 : mask / 2 ^ k % 2 = 0 := by omega
      rw [h0]; rfl
  · intro C j v s₃ m₃ E' hC hP _ hn' hm hk ht
    exact wpAny_Name (wpAny_loadName_local (by simp [compEnvC, relabel, hkind]) (lookup_relabel_local hx) hn' hm ⟨rfl, ⟨_, _, rfl, fun _ _ e => e⟩⟩) hb1
  · intro D h' tk ys vs' hD hy _ hvl' hP hF hk
    have e : vs' = rv := by
      apply List.ext_getElem?
      intro j
      cases hj : vs'[j]? with
      | none =>
        have : vs'.length ≤ j := List.getElem?_eq_none_iff.mp hj
        exact (List.getElem?_eq_none_iff.mpr (by simp at hvl'; omega)).symm
      | some v => exact (by simpa using (hP j v hj).symm)
    subst e
    have e2 := paired_eq hF
    refine h D h' tk ys.toList (fun b o e => hk b o (fun q => by
      rw [List.mem_singleton.mp q] at e
      exact Nat.lt_irrefl _ (Heap.lt_size e)) (up b o e)) ?_ (by simpa using hy) (e2 ▸ ix_filter _ _ hix)
    cases z : s.heap.get? D with
    | none => rfl
    | some o => rw [up _ _ z] at hD; cases hD

/-- a scope with one cell of its own is opened -/
theorem newEnv_cell {scope : Scope} {z0 mk al : Str} {globals : Addr} {cl : List (Str × Addr)} {qual : Str} {outer : Env} {Q : Env → Shared → Prop} (hn : scope.names = [(z0, .local), (mk, .cell), (al, .free)])
    (h : Q { scope, locals := s.heap.objs.size, globals, cells := (mk, s.heap.objs.size + 1) :: cl, qual, func := none, code := outer.code, frame := outer.frame, builtins := outer.builtins }
      { s with heap := (s.heap.push { cls := .type "dict", data := .dict #[] }).push { cls := .type "cell", data := .cell none } }) :
    wpAny (model prog w) A (newFunctionEnv scope globals cl [] qual none .none (some outer)) Q E s := by
  simp only [newFunctionEnv, Option.isSome_some, if_true]
  refine wpAny_bind (wpAny_alloc ?_)
  rw [hn]
  simp only [List.forIn_cons, List.forIn_nil]
  refine wpAny_bind (wpAny_bind (wpAny_pure ?_))
  refine wpAny_bind ?_
  rw [if_pos (by rfl)]
  refine wpAny_bind (wpAny_alloc ?_)
  refine wpAny_pure ?_
  dsimp only
  refine wpAny_bind (wpAny_pure ?_)
  refine wpAny_pure ?_
  refine wpAny_bind (wpAny_pure ?_)
  refine wpAny_pure ?_
  rw [Heap.size_push]
  exact h
end

/-- the surroundings of the masks' block -/
abbrev maskEnv (sc : Scope) (env : Env) (clo : List (Str × Addr)) (mk : Str) (C c : Addr) : Env :=
  { scope := relabel sc env, locals := C, globals := env.globals, cells := (mk, c) :: clo, qual := env.qual, func := none, code := env.code, frame := env.frame, builtins := env.builtins }

/-- rows none of which is D -/
def RowsOff (D : Addr) (h : Heap) (rvs : List Value) (rows : List (List Nat)) : Prop := rvs.length = rows.length ∧ ∀ (i : Nat) v, rvs[i]? = some v → ∃ r rv ix, v = .ref r ∧ r ≠ D ∧ h.IsList r rv.toArray ∧ rows[i]? = some ix ∧ IxAre rv ix
theorem RowsOff.rows {D : Addr} {h : Heap} {rvs : List Value} {rows : List (List Nat)} (x : RowsOff D h rvs rows) : RowsAre h rvs rows := ⟨x.1, fun i v hv => by
  obtain ⟨r, rv, ix, a, b, c, d, e⟩ := x.2 i v hv
  exact ⟨r, rv, ix, a, c, d, e⟩⟩
theorem RowsOff.at {D : Addr} {h h' : Heap} {rvs : List Value} {rows : List (List Nat)} (x : RowsOff D h rvs rows) (k : ∀ b o, b ≠ D → h.get? b = some o → o.cls = .type "list" → (∃ items m, o.data = .seq items m) → h'.get? b = some o) : RowsOff D h' rvs rows := ⟨x.1, fun i v hv => by
  obtain ⟨r, rv, ix, a, b, ⟨o, ho, hc, n, hd⟩, d, e⟩ := x.2 i v hv
  exact ⟨r, rv, ix, a, b, ⟨o, k _ _ b ho hc ⟨_, _, hd⟩, hc, n, hd⟩, d, e⟩⟩
theorem RowsOff.snoc {D r : Addr} {h : Heap} {rvs rv : List Value} {rows : List (List Nat)} {ix : List Nat} (x : RowsOff D h rvs rows) (hr : r ≠ D) (hl : h.IsList r rv.toArray) (hix : IxAre rv ix) : RowsOff D h (rvs ++ [.ref r]) (rows ++ [ix]) := by
  refine ⟨by simp [x.1], fun i v hv => ?_⟩
  rcases Nat.lt_or_ge i rvs.length with hlt | hge
  · rw [List.getElem?_append_left hlt] at hv
    obtain ⟨r', rv', ix', a, b, c, d, e⟩ := x.2 i v hv
    exact ⟨r', rv', ix', a, b, c, by rw [List.getElem?_append_left (by rw [← x.1]; exact hlt)]; exact d, e⟩
  · rw [List.getElem?_append_right hge] at hv
    have h0 : i - rvs.length = 0 := by
      cases hq : i - rvs.length with
      | zero => rfl
      | succ j => rw [hq] at hv; simp at hv
    rw [h0] at hv
    simp at hv
    refine ⟨r, rv, ix, hv.symm, hr, hl, ?_, hix⟩
    rw [List.getElem?_append_right (by rw [← x.1]; exact hge), ← x.1, h0]
    rfl
end Mine
end
theorem Mine.anewLc3 : True := by
  w_top off
  exact trivial
section
open PySem PySem.W PySem.Calls PyProof.Rows
set_option Elab.async false
set_option maxRecDepth 100000
set_option linter.unusedVariables false
namespace Mine
theorem not_iter' {h : Heap} {b J : Addr} {o : Obj} {x l st : Int} (e : h.get? b = some o) (hc : o.cls = .type "list") (hJ : IsRangeIter h J x l st) : b ≠ J := fun q => by
  rw [q, hJ] at e; cases e; exact absurd hc (by simp)
section
variable {prog : Program} {w : World} {A : Around} {E : Value → Shared → Prop} {s : Shared}
theorem masks_core {env : Env} {i mk al z0 : Str} {iterR : Expr} {q1 qx qpos p0 p1 p2 p3 p4 p5 p6 p7 p8 p9 px pos : Pos} {k1 k2 k3 : Nat} {sc si : Scope} {clo : List (Str × Addr)} {ca r I : Addr} {rv : List Value} {n : Nat} {oA : Obj} {s₂ : Shared} {RR : Value → Addr → Result → Shared → Prop}
    (hA : A.handled = none) (hix : IxAre rv (List.range n)) (hn : n ≤ 6)
    (hI : IsRangeIter s₂.heap I (0 + ((0 : Nat) : Int) * 1) (((2 ^ n : Nat) : Int) - ((0 : Nat) : Int)) 1) (hoA : s₂.heap.get? ca = some oA) (hdA : oA.data = .cell (some (.ref r))) (hr : s₂.heap.IsList r rv.toArray) (hIca : I ≠ ca) (hIr : I ≠ r)
    (hRR : ∀ D C h' tk rvs m, (∀ b o, b ≠ I → s₂.heap.get? b = some o → h'.get? b = some o) → s₂.heap.get? D = none → s₂.heap.get? C = none → D ≠ C → h'.Ns C m → h'.IsList D rvs.toArray → RowsAre h' rvs (samples n) → RR (.ref D) C (.ok .next) { s₂ with heap := h', toks := tk })
    (hsc : sc.names = [(z0, .local), (mk, .cell), (al, .free)]) (hkind : sc.kind = .function) (hal : clo.lookup al = some ca) (hne : (al == mk) = false)
    (hral : (relabel sc env).names.lookup al = some .cell) (hrmk : (relabel sc env).names.lookup mk = some .cell)
    (hci : ∀ C c, closureFor si (maskEnv sc env clo mk C c) = pure [(mk, c)]) (hrmi : ∀ C c, (relabel si (maskEnv sc env clo mk C c)).names.lookup mk = some .cell)
    (hcell : ∀ y ∈ si.names, y.2 ≠ .cell) (hkindi : si.kind = .function) (hnames : ∀ y ∈ si.names, y.2 = .local → si.names.lookup y.1 = some .local) (hx : si.names.lookup i = some .local) (hb1 : (i == ("__debug__" : Str)) = false) (hb2 : (mk == ("__debug__" : Str)) = false) (hb3 : (al == ("__debug__" : Str)) = false)
    (hsi : ∀ env x, foldedSetIterable (.Name al q1) env x = pure x) :
    wpAny (model prog w) A (newList []) (fun acc s₃ => wpAny (model prog w) A (newFunctionEnv sc env.globals clo [] env.qual none .none (some env)) (fun cenv s₄ =>
      codeAny (model prog w) A (.compStart (.ListComp (.ListComp (.Name i p0) [⟨.Name i px, .Name al q1, [.Compare (.BinOp (.BinOp (.Name mk p1) .FloorDiv (.BinOp (.Constant (.int 2) k1 p2) .Pow (.Name i p3) p4) p5) .Mod (.Constant (.int 2) k2 p6) p7) [.Eq] [.Constant (.int 1) k3 p8] p9], 0⟩] si pos)
        [⟨.Name mk qx, iterR, [], 0⟩] sc qpos) 0 (.ref I) acc { cenv with scope := relabel sc env }) (RR acc cenv.locals) s₄) E s₃) E s₂ := by
  have hIlt : I < s₂.heap.objs.size := Heap.lt_size hI
  refine wpAny_newObj_type (newEnv_cell hsc ?_)
  dsimp only
  generalize hH1 : s₂.heap.push { cls := .type "list", dict := none, data := .seq ([] : List Value).toArray } = H1
  have hsz1 : H1.objs.size = s₂.heap.objs.size + 1 := by rw [← hH1, Heap.size_push]
  generalize hD : s₂.heap.objs.size = D at *
  generalize hCC : H1.objs.size = C at *
  have k0 : ∀ b o, s₂.heap.get? b = some o → ((H1.push { cls := .type "dict", data := .dict #[] }).push { cls := .type "cell", data := .cell none }).get? b = some o := fun b o e =>
    Heap.get?_push_of_some _ (Heap.get?_push_of_some _ (hH1 ▸ Heap.get?_push_of_some _ e))
  have hDl : ((H1.push { cls := .type "dict", data := .dict #[] }).push { cls := .type "cell", data := .cell none }).IsList D ([] : List Value).toArray :=
    ⟨_, Heap.get?_push_of_some _ (Heap.get?_push_of_some _ (hH1 ▸ hD ▸ Heap.get?_push_size _ rfl)), rfl, _, rfl⟩
  have hc0 : ((H1.push { cls := .type "dict", data := .dict #[] }).push { cls := .type "cell", data := .cell none }).get? (C + 1) = some { cls := .type "cell", data := .cell none } := by
    have this : ((H1.push { cls := .type "dict", data := .dict #[] }).push { cls := .type "cell", data := .cell none }).get? (H1.push { cls := .type "dict", data := .dict #[] }).objs.size = some { cls := .type "cell", data := .cell none } := Heap.get?_push_size _ rfl
    rw [Heap.size_push, hCC] at this
    exact this
  have hns0 : ((H1.push { cls := .type "dict", data := .dict #[] }).push { cls := .type "cell", data := .cell none }).Ns C (fun _ => none) := by
    have := (Heap.Ns.new H1 (.type "dict")).push { cls := .type "cell", data := .cell none }
    rw [hCC] at this
    exact this
  generalize ((H1.push { cls := .type "dict", data := .dict #[] }).push { cls := .type "cell", data := .cell none }) = H at *
  have hDC : D ≠ C := by rw [hsz1]; exact Nat.ne_of_lt (Nat.lt_succ_self _)
  have hDc : D ≠ C + 1 := by rw [hsz1]; exact Nat.ne_of_lt (Nat.lt_succ_of_lt (Nat.lt_succ_self _))
  have hCc : C ≠ C + 1 := Nat.ne_of_lt (Nat.lt_succ_self _)
  have old : ∀ b, b < D → b ≠ D ∧ b ≠ C ∧ b ≠ C + 1 := fun b hb => by
    refine ⟨Nat.ne_of_lt hb, ?_, ?_⟩
    · rw [hsz1]; exact Nat.ne_of_lt (Nat.lt_succ_of_lt hb)
    · rw [hsz1]; exact Nat.ne_of_lt (Nat.lt_succ_of_lt (Nat.lt_succ_of_lt hb))
  have oI := old I hIlt
  have W := Walks.range (prog := prog) (w := w) (A := A) hA I 0 1 (2 ^ n)
  have hN : 2 ^ n ≤ 2 ^ 6 := Nat.pow_le_pow_right (by decide) hn
  have fresh : ∀ b, D ≤ b → s₂.heap.get? b = none := fun b hb => Heap.get?_none_of_le (hD ▸ hb)
  have lt2 : ∀ {b o}, s₂.heap.get? b = some o → b < D := fun e => hD ▸ Heap.lt_size e
  have loop : codeAny (model prog w) A (.compLoop (.ListComp (.ListComp (.Name i p0) [⟨.Name i px, .Name al q1, [.Compare (.BinOp (.BinOp (.Name mk p1) .FloorDiv (.BinOp (.Constant (.int 2) k1 p2) .Pow (.Name i p3) p4) p5) .Mod (.Constant (.int 2) k2 p6) p7) [.Eq] [.Constant (.int 1) k3 p8] p9], 0⟩] si pos)
      [⟨.Name mk qx, iterR, [], 0⟩] sc qpos) 0 (.ref I) (.ref D) (maskEnv sc env clo mk C (C + 1))) (RR (.ref D) C) { s₂ with heap := H } := by
    refine codeAny_compLoop_list (fun k s' => ∃ j h' tk rvs, j ≤ 2 ^ n ∧ k = 2 ^ n - j ∧ s' = { s₂ with heap := h', toks := tk } ∧ IsRangeIter h' I (0 + ((j : Nat) : Int) * 1) (((2 ^ n : Nat) : Int) - ((j : Nat) : Int)) 1 ∧ h'.IsList D rvs.toArray ∧ RowsOff D h' rvs ((samples n).take j) ∧
      (∀ b o, b ≠ I → s₂.heap.get? b = some o → h'.get? b = some o) ∧ (∃ v, h'.IsCell (C + 1) v) ∧ h'.Ns C (fun _ => none)) ?_ (2 ^ n) ⟨0, H, s₂.toks, [], Nat.zero_le _, rfl, rfl, k0 _ _ hI, hDl, ⟨rfl, fun i v hv => by simp at hv⟩, fun b o _ e => k0 b o e, ⟨_, _, hc0, rfl⟩, hns0⟩
    · rintro k s' ⟨j, h', tk, rvs, hj, rfl, rfl, hI', hD', hRow, hk', ⟨cv, hcell'⟩, hns'⟩
      have IC : I ≠ C + 1 := oI.2.2
      rcases Nat.lt_or_ge j (2 ^ n) with hlt | hge
      · refine W.item j _ _ _ hlt hI' fun v h1 tk1 hP hst hk1 => ?_
        obtain ⟨tv, rfl⟩ := hP
        have kk1 : ∀ b o, b ≠ I → h'.get? b = some o → h1.get? b = some o := fun b o hb e => hk1 b o (by simpa using hb) e
        refine wpAny_assign_Name (wpAny_storeName_cell (by simp [relabel, hkind]) hrmk (c := C + 1) (by simp) (by obtain ⟨oc, hoc, hdc⟩ := hcell'; exact ⟨oc, kk1 _ _ (Ne.symm IC) hoc, hdc⟩) fun h2 hcell2 hs2 => ?_)
        have kk2 : ∀ b o, b ≠ C + 1 → h1.get? b = some o → h2.get? b = some o := fun b o hb e => hs2.extBut b o hb e
        have kk : ∀ b o, b ≠ I → b ≠ C + 1 → h'.get? b = some o → h2.get? b = some o := fun b o h1 h2 e => kk2 b o h2 (kk1 b o h1 e)
        have old2 : ∀ b o, b ≠ I → s₂.heap.get? b = some o → h2.get? b = some o := fun b o hb e => kk b o hb (old b (lt2 e)).2.2 (hk' b o hb e)
        obtain ⟨oc, hoc, hdc⟩ := hcell2
        have hv : (0 + (j : Int) * 1) = ((j : Nat) : Int) := by omega
        rw [hv] at hdc
        have hrl : h2.IsList r rv.toArray := hr.at fun o e => old2 r o (Ne.symm hIr) e
        refine lc_bits (cl := [(mk, C + 1)]) (c := C + 1) (r := r) (rv := rv) (n := n) (mask := j) hA (fun Q' hq => ?_) hrl hix hn hlt hoc hdc ?_ (by simp) (hrmi _ _) (hci _ _) hcell hkindi hnames hx hb1 hb2 (hsi _)
        · refine wpAny_Name (wpAny_loadName_cell (by simp [relabel, hkind]) hral (c := ca) ?_ ⟨oA, old2 _ _ (Ne.symm hIca) hoA, hdA⟩ hq) hb3
          simp only [List.lookup_cons, hne]
          exact hal
        · intro X h3 tk3 ys hk3 nX lX ixX
          have hD3 : h3.IsList D rvs.toArray := hD'.at fun o e => hk3 _ _ (kk D o (Ne.symm oI.1) hDc e)
          have XD : X ≠ D := fun q => by
            obtain ⟨o, ho, _⟩ := hD'
            have := kk D o (Ne.symm oI.1) hDc ho
            rw [← q] at this
            rw [show h2.get? X = none from nX] at this
            cases this
          have hsz : rvs.toArray.size ≤ sizeLine := by
            refine Nat.le_trans (?_ : rvs.toArray.size ≤ 64) (by decide)
            have := hRow.1
            simp only [List.size_toArray]
            rw [this, List.length_take]
            omega
          refine wpAny_list_append hD3 (fun h4 hD4 hs4 => ?_) hsz
          have k4 : ∀ b o, b ≠ D → h3.get? b = some o → h4.get? b = some o := fun b o hb e => hs4.extBut b o hb e
          refine ⟨2 ^ n - (j + 1), by omega, j + 1, h4, tk3, rvs ++ [.ref X], hlt, rfl, rfl, ?_, ?_, ?_, ?_, ?_, ?_⟩
          · have e1 : h2.get? I = some _ := kk2 I _ IC hst
            exact k4 I _ oI.1 (hk3 _ _ e1)
          · simpa using hD4
          · have e1 : (samples n).take (j + 1) = (samples n).take j ++ [(List.range n).filter fun i => j / 2 ^ i % 2 == 1] := by
              unfold samples
              rw [← List.map_take, ← List.map_take, List.take_range, List.take_range, Nat.min_eq_left hlt, Nat.min_eq_left hj, List.range_succ, List.map_append]
              rfl
            rw [e1]
            refine RowsOff.snoc (hRow.at fun b o hb e hc hsq => ?_) XD (lX.at fun o e => k4 X o XD e) ixX
            refine k4 b o hb (hk3 b o (kk b o (fun q => ?_) (fun q => ?_) e))
            · rw [q, hI'] at e; cases e; exact absurd hc (by simp)
            · obtain ⟨oc', hoc', hdc'⟩ := hcell'
              obtain ⟨its, m, hdq⟩ := hsq
              rw [q, hoc'] at e
              cases e
              rw [hdc'] at hdq
              cases hdq
          · exact fun b o hb e => k4 b o (old b (lt2 e)).1 (hk3 _ _ (old2 b o hb e))
          · exact ⟨_, oc, k4 _ _ (Ne.symm hDc) (hk3 _ _ hoc), hdc⟩
          · exact hns'.at' fun o e => k4 C o (Ne.symm hDC) (hk3 _ _ (kk C o (Ne.symm oI.2.1) hCc e))
      · have e : j = 2 ^ n := Nat.le_antisymm hj hge
        subst e
        refine W.done _ _ _ hI' fun h1 tk1 hk1 => ?_
        have kk1 : ∀ b o, b ≠ I → h'.get? b = some o → h1.get? b = some o := fun b o hb e => hk1 b o (by simpa using hb) e
        have e1 : (samples n).take (2 ^ n) = samples n := List.take_of_length_le (by simp [samples])
        rw [e1] at hRow
        exact hRR D C h1 tk1 rvs _ (fun b o hb e => kk1 b o hb (hk' b o hb e)) (fresh D (Nat.le_refl _)) (fresh C (by rw [hsz1]; exact Nat.le_succ _)) hDC (hns'.at' fun o e => kk1 C o (Ne.symm oI.2.1) e) (hD'.at fun o e => kk1 D o (Ne.symm oI.1) e)
          (hRow.at fun b o hb e hc hsq => kk1 b o (not_iter' e hc hI') e).rows
  exact codeAny_compStart_list loop (W.self 0 _ _ _ (k0 _ _ hI) loop)
end
end Mine
end
theorem Mine.anewLc4 : True := by
  w_top off
  exact trivial
section
open PySem PySem.W PySem.Calls PyProof.Rows
set_option Elab.async false
set_option maxRecDepth 100000
set_option linter.unusedVariables false
namespace Mine
abbrev comp3 (elt : Expr) (i j k : Str) (pi pj pk : Pos) (e0 e1 e2 : Expr) (sc : Scope) (pos : Pos) : Expr := .ListComp elt [⟨.Name i pi, e0, [], 0⟩, ⟨.Name j pj, e1, [], 0⟩, ⟨.Name k pk, e2, [], 0⟩] sc pos
section
variable {elt : Expr} {i j k : Str} {pi pj pk : Pos} {e0 e1 e2 : Expr} {sc : Scope} {pos : Pos}
theorem turn3_0 (it acc : Value) (env : Env) : compTurn (comp3 elt i j k pi pj pk e0 e1 e2 sc pos) 0 it acc env = (standAt e0.pos >>= fun _ => pyNext it >>= fun r => match r with
      | none => pure (.done .next)
      | some v => letOwnedTupleGo (.Name i pi) it v >>= fun _ => assign (.Name i pi) env v >>= fun _ =>
        eval e1 env >>= fun x => standAt e1.pos >>= fun _ => foldedSetIterable e1 env x >>= fun x => holding [x] (pyIter x) >>= fun it' => runOwn (.compStart (comp3 elt i j k pi pj pk e0 e1 e2 sc pos) 1 it' acc env) env >>= fun _ =>
          again (.compLoop (comp3 elt i j k pi pj pk e0 e1 e2 sc pos) 0 it acc env)) := by rfl
theorem turn3_1 (it acc : Value) (env : Env) : compTurn (comp3 elt i j k pi pj pk e0 e1 e2 sc pos) 1 it acc env = (standAt e1.pos >>= fun _ => pyNext it >>= fun r => match r with
      | none => pure (.done .next)
      | some v => letOwnedTupleGo (.Name j pj) it v >>= fun _ => assign (.Name j pj) env v >>= fun _ =>
        eval e2 env >>= fun x => standAt e2.pos >>= fun _ => foldedSetIterable e2 env x >>= fun x => holding [x] (pyIter x) >>= fun it' => runOwn (.compStart (comp3 elt i j k pi pj pk e0 e1 e2 sc pos) 2 it' acc env) env >>= fun _ =>
          again (.compLoop (comp3 elt i j k pi pj pk e0 e1 e2 sc pos) 1 it acc env)) := by rfl
theorem turn3_2 (it acc : Value) (env : Env) : compTurn (comp3 elt i j k pi pj pk e0 e1 e2 sc pos) 2 it acc env = (standAt e2.pos >>= fun _ => pyNext it >>= fun r => match r with
      | none => pure (.done .next)
      | some v => letOwnedTupleGo (.Name k pk) it v >>= fun _ => assign (.Name k pk) env v >>= fun _ =>
        (eval elt env >>= fun x => call (.builtin "list.append") [acc, x] >>= fun _ => pure ()) >>= fun _ =>
          again (.compLoop (comp3 elt i j k pi pj pk e0 e1 e2 sc pos) 2 it acc env)) := by rfl
end
section
variable {prog : Program} {w : World} {A : Around} {E : Value → Shared → Prop} {s : Shared} {elt : Expr} {i j k : Str} {pi pj pk : Pos} {e0 e1 e2 : Expr} {sc : Scope} {pos : Pos}

theorem loop3_0 {R : Result → Shared → Prop} {env : Env} {acc : Value} {I : Addr} {fp wr : List Addr} {N : Nat} {P : Nat → Value → Prop} {St : Nat → Heap → Prop} (W : Walks prog w A I fp wr N P St) (Inv : Nat → Shared → Prop)
    (it : ∀ p s', Inv p s' → St p s'.heap) (start : Inv 0 s)
    (turn : ∀ p v s' h' tk E', p < N → Inv p s' → P p v → St (p + 1) h' → (∀ b o, b ∉ wr → s'.heap.get? b = some o → h'.get? b = some o) →
      wpAny (model prog w) A (storeName env i v) (fun _ s₂ => wpAny (model prog w) A (eval e1 env) (fun x s₃ => wpAny (model prog w) A (pyIter x) (fun it' s₄ => codeAny (model prog w) A (.compStart (comp3 elt i j k pi pj pk e0 e1 e2 sc pos) 1 it' acc env) (fun r s₅ => match r with | .ok _ => Inv (p + 1) s₅ | .error _ => False) s₄) E' s₃) E' s₂) E' { s' with heap := h', toks := tk })
    (done : ∀ s' h' tk, Inv N s' → (∀ b o, b ∉ wr → s'.heap.get? b = some o → h'.get? b = some o) → R (.ok .next) { s' with heap := h', toks := tk })
    (hs : ∀ x, foldedSetIterable e1 env x = pure x) :
    codeAny (model prog w) A (.compLoop (comp3 elt i j k pi pj pk e0 e1 e2 sc pos) 0 (.ref I) acc env) R s := by
  refine codeAny_loop rfl (fun m s' => ∃ p, p ≤ N ∧ m = N - p ∧ Inv p s') ?_ N ⟨0, Nat.zero_le _, rfl, start⟩
  rintro m s' ⟨p, hp, rfl, hI⟩
  show wpAny _ A ((compTurn (comp3 elt i j k pi pj pk e0 e1 e2 sc pos) 0 (.ref I) acc env).onRaise (fun x => do noteFrame x env; theTreesLotGoes x)) _ _ s'
  refine wpAny_noted ?_
  rw [turn3_0]
  refine wpAny_bind (wpAny_standAt (wpAny_bind ?_))
  rcases Nat.lt_or_ge p N with hlt | hge
  · refine W.item p s' _ _ hlt (it p s' hI) fun v h' tk hP hst hk => ?_
    dsimp only
    refine wpAny_bind (wpAny_of_eq (rfl : letOwnedTupleGo (.Name i pi) (.ref I) v = pure ()) ?_)
    refine wpAny_bind (wpAny_assign_Name (wpAny_mono (turn p v s' h' tk _ hlt hI hP hst hk) (fun _ s₂ h₂ => ?_) fun _ _ e => e))
    refine wpAny_bind (wpAny_mono h₂ (fun x s₃ h₃ => ?_) fun _ _ e => e)
    refine wpAny_bind (wpAny_standAt (wpAny_bind (wpAny_of_eq (hs x) (wpAny_bind (wpAny_holding (wpAny_mono h₃ (fun it' s₄ h₄ => ?_) fun _ _ e => e))))))
    refine wpAny_bind (wpAny_runOwn (codeAny_mono h₄ fun r s₅ h₅ => ?_))
    cases r with
    | ok f => exact wpAny_pure ⟨rfl, N - (p + 1), by omega, p + 1, hlt, rfl, h₅⟩
    | error e => exact h₅.elim
  · have e : p = N := Nat.le_antisymm hp hge
    subst e
    refine W.done s' _ _ (it _ s' hI) fun h' tk hk => ?_
    exact wpAny_pure (done s' h' tk hI hk)

theorem loop3_1 {R : Result → Shared → Prop} {env : Env} {acc : Value} {I : Addr} {fp wr : List Addr} {N : Nat} {P : Nat → Value → Prop} {St : Nat → Heap → Prop} (W : Walks prog w A I fp wr N P St) (Inv : Nat → Shared → Prop)
    (it : ∀ p s', Inv p s' → St p s'.heap) (start : Inv 0 s)
    (turn : ∀ p v s' h' tk E', p < N → Inv p s' → P p v → St (p + 1) h' → (∀ b o, b ∉ wr → s'.heap.get? b = some o → h'.get? b = some o) →
      wpAny (model prog w) A (storeName env j v) (fun _ s₂ => wpAny (model prog w) A (eval e2 env) (fun x s₃ => wpAny (model prog w) A (pyIter x) (fun it' s₄ => codeAny (model prog w) A (.compStart (comp3 elt i j k pi pj pk e0 e1 e2 sc pos) 2 it' acc env) (fun r s₅ => match r with | .ok _ => Inv (p + 1) s₅ | .error _ => False) s₄) E' s₃) E' s₂) E' { s' with heap := h', toks := tk })
    (done : ∀ s' h' tk, Inv N s' → (∀ b o, b ∉ wr → s'.heap.get? b = some o → h'.get? b = some o) → R (.ok .next) { s' with heap := h', toks := tk })
    (hs : ∀ x, foldedSetIterable e2 env x = pure x) :
    codeAny (model prog w) A (.compLoop (comp3 elt i j k pi pj pk e0 e1 e2 sc pos) 1 (.ref I) acc env) R s := by
  refine codeAny_loop rfl (fun m s' => ∃ p, p ≤ N ∧ m = N - p ∧ Inv p s') ?_ N ⟨0, Nat.zero_le _, rfl, start⟩
  rintro m s' ⟨p, hp, rfl, hI⟩
  show wpAny _ A ((compTurn (comp3 elt i j k pi pj pk e0 e1 e2 sc pos) 1 (.ref I) acc env).onRaise (fun x => do noteFrame x env; theTreesLotGoes x)) _ _ s'
  refine wpAny_noted ?_
  rw [turn3_1]
  refine wpAny_bind (wpAny_standAt (wpAny_bind ?_))
  rcases Nat.lt_or_ge p N with hlt | hge
  · refine W.item p s' _ _ hlt (it p s' hI) fun v h' tk hP hst hk => ?_
    dsimp only
    refine wpAny_bind (wpAny_of_eq (rfl : letOwnedTupleGo (.Name j pj) (.ref I) v = pure ()) ?_)
    refine wpAny_bind (wpAny_assign_Name (wpAny_mono (turn p v s' h' tk _ hlt hI hP hst hk) (fun _ s₂ h₂ => ?_) fun _ _ e => e))
    refine wpAny_bind (wpAny_mono h₂ (fun x s₃ h₃ => ?_) fun _ _ e => e)
    refine wpAny_bind (wpAny_standAt (wpAny_bind (wpAny_of_eq (hs x) (wpAny_bind (wpAny_holding (wpAny_mono h₃ (fun it' s₄ h₄ => ?_) fun _ _ e => e))))))
    refine wpAny_bind (wpAny_runOwn (codeAny_mono h₄ fun r s₅ h₅ => ?_))
    cases r with
    | ok f => exact wpAny_pure ⟨rfl, N - (p + 1), by omega, p + 1, hlt, rfl, h₅⟩
    | error e => exact h₅.elim
  · have e : p = N := Nat.le_antisymm hp hge
    subst e
    refine W.done s' _ _ (it _ s' hI) fun h' tk hk => ?_
    exact wpAny_pure (done s' h' tk hI hk)

theorem loop3_2 {R : Result → Shared → Prop} {env : Env} {acc : Value} {I : Addr} {fp wr : List Addr} {N : Nat} {P : Nat → Value → Prop} {St : Nat → Heap → Prop} (W : Walks prog w A I fp wr N P St) (Inv : Nat → Shared → Prop)
    (it : ∀ p s', Inv p s' → St p s'.heap) (start : Inv 0 s)
    (turn : ∀ p v s' h' tk E', p < N → Inv p s' → P p v → St (p + 1) h' → (∀ b o, b ∉ wr → s'.heap.get? b = some o → h'.get? b = some o) →
      wpAny (model prog w) A (storeName env k v) (fun _ s₂ => wpAny (model prog w) A (eval elt env) (fun x s₃ => wpAny (model prog w) A (call (.builtin "list.append") [acc, x]) (fun _ s₄ => Inv (p + 1) s₄) E' s₃) E' s₂) E' { s' with heap := h', toks := tk })
    (done : ∀ s' h' tk, Inv N s' → (∀ b o, b ∉ wr → s'.heap.get? b = some o → h'.get? b = some o) → R (.ok .next) { s' with heap := h', toks := tk })
    :
    codeAny (model prog w) A (.compLoop (comp3 elt i j k pi pj pk e0 e1 e2 sc pos) 2 (.ref I) acc env) R s := by
  refine codeAny_loop rfl (fun m s' => ∃ p, p ≤ N ∧ m = N - p ∧ Inv p s') ?_ N ⟨0, Nat.zero_le _, rfl, start⟩
  rintro m s' ⟨p, hp, rfl, hI⟩
  show wpAny _ A ((compTurn (comp3 elt i j k pi pj pk e0 e1 e2 sc pos) 2 (.ref I) acc env).onRaise (fun x => do noteFrame x env; theTreesLotGoes x)) _ _ s'
  refine wpAny_noted ?_
  rw [turn3_2]
  refine wpAny_bind (wpAny_standAt (wpAny_bind ?_))
  rcases Nat.lt_or_ge p N with hlt | hge
  · refine W.item p s' _ _ hlt (it p s' hI) fun v h' tk hP hst hk => ?_
    dsimp only
    refine wpAny_bind (wpAny_of_eq (rfl : letOwnedTupleGo (.Name k pk) (.ref I) v = pure ()) ?_)
    refine wpAny_bind (wpAny_assign_Name (wpAny_mono (turn p v s' h' tk _ hlt hI hP hst hk) (fun _ s₂ h₂ => ?_) fun _ _ e => e))
    exact wpAny_bind (wpAny_bind (wpAny_mono h₂ (fun x s₃ h₃ => wpAny_bind (wpAny_mono h₃ (fun _ s₄ h₄ => wpAny_pure (wpAny_pure ⟨rfl, N - (p + 1), by omega, p + 1, hlt, rfl, h₄⟩)) fun _ _ e => e)) fun _ _ e => e))
  · have e : p = N := Nat.le_antisymm hp hge
    subst e
    refine W.done s' _ _ (it _ s' hI) fun h' tk hk => ?_
    exact wpAny_pure (done s' h' tk hI hk)

theorem start3_0 {R : Result → Shared → Prop} {env : Env} {acc : Value} {I : Addr} (self : ∀ (Q : Value → Shared → Prop) (E : Value → Shared → Prop), Q (.ref I) s → wpAny (model prog w) A (pyIter (.ref I)) Q E s)
    (h : codeAny (model prog w) A (.compLoop (comp3 elt i j k pi pj pk e0 e1 e2 sc pos) 0 (.ref I) acc env) R s) : codeAny (model prog w) A (.compStart (comp3 elt i j k pi pj pk e0 e1 e2 sc pos) 0 (.ref I) acc env) R s := by
  refine codeAny_of_tree ?_
  show wpAny _ _ ((compStart (comp3 elt i j k pi pj pk e0 e1 e2 sc pos) 0 (.ref I) acc env).onRaise (fun x => do noteFrame x env; standAt theWindowsPlace)) _ _ s
  refine wpAny_notedAt ?_
  unfold compStart
  show wpAny _ _ (ask >>= _) _ _ s
  refine wpAny_bind (wpAny_askSetting (wpAny_ite ?_))
  split
  · first
      | exact wpAny_bind (wpAny_pure (wpAny_pure (And.intro rfl h)))
      | exact wpAny_pure (And.intro rfl h)
  · first
      | exact wpAny_bind (wpAny_rule (wpAny_bind (wpAny_standAt (wpAny_bind (self _ _ (wpAny_pure (And.intro rfl h)))))))
      | (refine wpAny_bind (wpAny_rule ?_); show wpAny _ _ (standAt e0.pos >>= _) _ _ s; exact wpAny_bind (wpAny_standAt (wpAny_bind (self _ _ (wpAny_pure (And.intro rfl h))))))

theorem start3_1 {R : Result → Shared → Prop} {env : Env} {acc : Value} {I : Addr} (self : ∀ (Q : Value → Shared → Prop) (E : Value → Shared → Prop), Q (.ref I) s → wpAny (model prog w) A (pyIter (.ref I)) Q E s)
    (h : codeAny (model prog w) A (.compLoop (comp3 elt i j k pi pj pk e0 e1 e2 sc pos) 1 (.ref I) acc env) R s) : codeAny (model prog w) A (.compStart (comp3 elt i j k pi pj pk e0 e1 e2 sc pos) 1 (.ref I) acc env) R s := by
  refine codeAny_of_tree ?_
  show wpAny _ _ ((compStart (comp3 elt i j k pi pj pk e0 e1 e2 sc pos) 1 (.ref I) acc env).onRaise (fun x => do noteFrame x env; standAt theWindowsPlace)) _ _ s
  refine wpAny_notedAt ?_
  unfold compStart
  show wpAny _ _ (ask >>= _) _ _ s
  refine wpAny_bind (wpAny_askSetting (wpAny_ite ?_))
  split
  · first
      | exact wpAny_bind (wpAny_pure (wpAny_pure (And.intro rfl h)))
      | exact wpAny_pure (And.intro rfl h)
  · first
      | exact wpAny_bind (wpAny_rule (wpAny_bind (wpAny_standAt (wpAny_bind (self _ _ (wpAny_pure (And.intro rfl h)))))))
      | (refine wpAny_bind (wpAny_rule ?_); show wpAny _ _ (standAt e1.pos >>= _) _ _ s; exact wpAny_bind (wpAny_standAt (wpAny_bind (self _ _ (wpAny_pure (And.intro rfl h))))))

theorem start3_2 {R : Result → Shared → Prop} {env : Env} {acc : Value} {I : Addr} (self : ∀ (Q : Value → Shared → Prop) (E : Value → Shared → Prop), Q (.ref I) s → wpAny (model prog w) A (pyIter (.ref I)) Q E s)
    (h : codeAny (model prog w) A (.compLoop (comp3 elt i j k pi pj pk e0 e1 e2 sc pos) 2 (.ref I) acc env) R s) : codeAny (model prog w) A (.compStart (comp3 elt i j k pi pj pk e0 e1 e2 sc pos) 2 (.ref I) acc env) R s := by
  refine codeAny_of_tree ?_
  show wpAny _ _ ((compStart (comp3 elt i j k pi pj pk e0 e1 e2 sc pos) 2 (.ref I) acc env).onRaise (fun x => do noteFrame x env; standAt theWindowsPlace)) _ _ s
  refine wpAny_notedAt ?_
  unfold compStart
  show wpAny _ _ (ask >>= _) _ _ s
  refine wpAny_bind (wpAny_askSetting (wpAny_ite ?_))
  split
  · first
      | exact wpAny_bind (wpAny_pure (wpAny_pure (And.intro rfl h)))
      | exact wpAny_pure (And.intro rfl h)
  · first
      | exact wpAny_bind (wpAny_rule (wpAny_bind (wpAny_standAt (wpAny_bind (self _ _ (wpAny_pure (And.intro rfl h)))))))
      | (refine wpAny_bind (wpAny_rule ?_); show wpAny _ _ (standAt e2.pos >>= _) _ _ s; exact wpAny_bind (wpAny_standAt (wpAny_bind (self _ _ (wpAny_pure (And.intro rfl h))))))
end
end Mine
end
theorem Mine.anewLc5 : True := by
  w_top off
  exact trivial
section
open PySem PySem.W PySem.Calls PyProof.Rows
set_option Elab.async false
set_option maxRecDepth 100000
set_option linter.unusedVariables false
namespace Mine
def rep4 (i j k : Nat) : List Nat := [i, j, k, k, i, j, k, k, i, j, k, k, i, j, k, k]
def rows2 (n i j : Nat) : List (List Nat) := (List.range n).map fun k => rep4 i j k
def rows1 (n i : Nat) : List (List Nat) := (List.range n).flatMap fun j => rows2 n i j
def triples (n : Nat) : List (List Nat) := (List.range n).flatMap fun i => rows1 n i

section
variable {prog : Program} {w : World} {A : Around} {E : Value → Shared → Prop} {s : Shared}
theorem mul4 {l : Addr} {a b c d : Value} {k : Nat} {u : Tok} {Q : Value → Shared → Prop} (hl : s.heap.get? l = some { cls := .type "list", dict := none, data := .seq #[a, b, c, d] k, slots := #[] })
    (h : Q (.ref s.heap.objs.size) { s with heap := s.heap.push { cls := .type "list", data := .seq #[a, b, c, d, a, b, c, d, a, b, c, d, a, b, c, d] } }) : wpAny (model prog w) A (binaryOp .Mult (.ref l) (.int 4 u)) Q E s := by
  refine wpAny_binaryOp_repeat_ref (T := "list") (U := "int") (by decide) ⟨_, hl, rfl⟩ (fun s' => typeIs_int s' 4 u) noFill_list_mul F.fills_int_mul F.slot_int_rmul repeat_list F.slot_int_index.lookup
    (call_meets F.slot_int_rmul (typeIs_int s 4 u) F.entry_int_rmul (F.args_int_rmul_2 _ _) (int___rmul___int_list 4 u l #[a, b, c, d] k)
      ⟨hl, rfl, ⟨_, hl, rfl⟩, call_meets F.slot_list_mul ⟨_, hl, rfl⟩ F.entry_list_mul (F.args_list_mul_2 _ _)
        (AutoListH.list___mul___list_int_3 l #[a, b, c, d] k 4 u (by decide) (by show ¬ (16 > (2 ^ 63 - 1) / 8); decide) (by show ¬ (Builtin.List.listTooLong 16 = true); decide)) ⟨hl, ?_⟩⟩)
  have e : List.foldl (fun x1 x2 => x1 ++ x2) #[] (List.replicate (if (#[a, b, c, d] : Array Value).isEmpty = true then 0 else Int.toNat 4) #[a, b, c, d]) = #[a, b, c, d, a, b, c, d, a, b, c, d, a, b, c, d] := by
    rw [if_neg (by simp)]
    show List.foldl _ #[] [#[a, b, c, d], #[a, b, c, d], #[a, b, c, d], #[a, b, c, d]] = _
    simp
  rw [e]
  exact h

/-- what stands while the rows of draws are made -/
structure Trs (s₂ : Shared) (D C I0 : Addr) (rows : List (List Nat)) (h : Heap) : Prop where
  lst : ∃ rvs, h.IsList D rvs.toArray ∧ RowsOff D h rvs rows
  old : ∀ b o, b ≠ I0 → s₂.heap.get? b = some o → h.get? b = some o

theorem Trs.at {s₂ : Shared} {D C I0 : Addr} {rows : List (List Nat)} {h h' : Heap} (x : Trs s₂ D C I0 rows h) (kD : ∀ o, h.get? D = some o → h'.get? D = some o) (kl : ∀ b o, b ≠ D → h.get? b = some o → o.cls = .type "list" → (∃ items m, o.data = .seq items m) → h'.get? b = some o)
    (ko : ∀ b o, b ≠ I0 → s₂.heap.get? b = some o → h.get? b = some o → h'.get? b = some o) : Trs s₂ D C I0 rows h' := by
  obtain ⟨⟨rvs, h1, h2⟩, h3⟩ := x
  exact ⟨⟨rvs, h1.at fun o e => kD o e, h2.at kl⟩, fun b o hb e => ko b o hb e (h3 b o hb e)⟩
theorem not_iter {h : Heap} {b J : Addr} {o : Obj} {x l st : Int} (e : h.get? b = some o) (hc : o.cls = .type "list") (hJ : IsRangeIter h J x l st) : b ≠ J := fun q => by
  rw [q, hJ] at e; cases e; exact absurd hc (by simp)
theorem not_ns {h : Heap} {b C : Addr} {o : Obj} {m : Str → Option Value} (e : h.get? b = some o) (hsq : ∃ items m, o.data = .seq items m) (hn : h.Ns C m) : b ≠ C := fun q => by
  obtain ⟨oC, es, ep, hoC, hdC, _⟩ := hn
  obtain ⟨its, k, hd⟩ := hsq
  rw [q, hoC] at e; cases e; rw [hdC] at hd; cases hd

variable {env : Env} {i j k : Str} {pi pj pk p1 p2 p3 p4 p5 p6 p7 : Pos} {k1 : Nat} {e0 e1 e2 : Expr} {sc : Scope} {pos : Pos} {cl : List (Str × Addr)}
abbrev elt4 (i j k : Str) (p1 p2 p3 p4 p5 p6 p7 : Pos) (k1 : Nat) : Expr := .BinOp (.List [.Name i p1, .Name j p2, .Name k p3, .Name k p4] p5) .Mult (.Constant (.int 4) k1 p6) p7

/-- one row is made -/
theorem row4 {C : Addr} {m : Str → Option Value} {a b c : Nat} {ta tb tc : Tok} {Q : Value → Shared → Prop} (hn : s.heap.Ns C m) (hi : m i = some (.int (a : Nat) ta)) (hj : m j = some (.int (b : Nat) tb)) (hk : m k = some (.int (c : Nat) tc))
    (hkf : (compEnvC sc cl C env).scope.kind = .function) (li : (compEnvC sc cl C env).kindOf i = some .local) (lj : (compEnvC sc cl C env).kindOf j = some .local) (lk : (compEnvC sc cl C env).kindOf k = some .local)
    (b1 : (i == ("__debug__" : Str)) = false) (b2 : (j == ("__debug__" : Str)) = false) (b3 : (k == ("__debug__" : Str)) = false)
    (h : ∀ h' tk X rv, (∀ b o, s.heap.get? b = some o → h'.get? b = some o) → s.heap.get? X = none → h'.IsList X rv.toArray → IxAre rv (rep4 a b c) → Q (.ref X) { s with heap := h', toks := tk }) :
    wpAny (model prog w) A (eval (elt4 i j k p1 p2 p3 p4 p5 p6 p7 k1) (compEnvC sc cl C env)) Q E s := by
  refine wpAny_BinOp (wpAny_List ?_)
  refine spliced_more (wpAny_Name (wpAny_loadName_local hkf li hn hi ?_) b1)
  refine spliced_more (wpAny_Name (wpAny_loadName_local hkf lj hn hj ?_) b2)
  refine spliced_more (wpAny_Name (wpAny_loadName_local hkf lk hn hk ?_) b3)
  refine spliced_more (wpAny_Name (wpAny_loadName_local hkf lk hn hk ?_) b3)
  refine spliced_none ⟨by show 4 ≤ sizeLine; decide, ?_⟩
  refine wpAny_Constant_int ?_
  refine mul4 (Heap.get?_push_size _ rfl) ?_
  have hsz : (s.heap.push { cls := Value.type "list", data := Data.seq [Value.int a ta, Value.int b tb, Value.int c tc, Value.int c tc].toArray }).objs.size = s.heap.objs.size + 1 := Heap.size_push ..
  refine h _ _ _ [Value.int a ta, Value.int b tb, Value.int c tc, Value.int c tc, Value.int a ta, Value.int b tb, Value.int c tc, Value.int c tc, Value.int a ta, Value.int b tb, Value.int c tc, Value.int c tc, Value.int a ta, Value.int b tb, Value.int c tc, Value.int c tc]
    (fun b o e => Heap.get?_push_of_some _ (Heap.get?_push_of_some _ e)) (Heap.get?_none_of_le ?_) ⟨_, Heap.get?_push_size _ rfl, rfl, _, rfl⟩ ⟨rfl, fun p v hv => ?_⟩
  · show s.heap.objs.size ≤ (s.heap.push _).objs.size
    rw [Heap.size_push]; exact Nat.le_succ _
  · have hp : p < 16 := by
      rcases Nat.lt_or_ge p 16 with h | h
      · exact h
      · rw [List.getElem?_eq_none (by simpa using h)] at hv; cases hv
    unfold rep4
    match p, hp with
    | 0, _ | 4, _ | 8, _ | 12, _ => exact ⟨a, ta, rfl, (Option.some.inj hv).symm⟩
    | 1, _ | 5, _ | 9, _ | 13, _ => exact ⟨b, tb, rfl, (Option.some.inj hv).symm⟩
    | 2, _ | 3, _ | 6, _ | 7, _ | 10, _ | 11, _ | 14, _ | 15, _ => exact ⟨c, tc, rfl, (Option.some.inj hv).symm⟩
end
end Mine
end
theorem Mine.anewLc6 : True := by
  w_top off
  exact trivial
section
open PySem PySem.W PySem.Calls PyProof.Rows
set_option Elab.async false
set_option maxRecDepth 100000
set_option linter.unusedVariables false
namespace Mine
section
variable {prog : Program} {w : World} {A : Around} {E : Value → Shared → Prop} {env : Env} {i j k : Str} {pi pj pk p1 p2 p3 p4 p5 p6 p7 : Pos} {k1 : Nat} {e0 e1 e2 : Expr} {sc : Scope} {pos : Pos} {cl : List (Str × Addr)} {s₂ : Shared} {D C I0 : Addr} {n : Nat}

/-- the names of the block of draws -/
structure Names3 (sc : Scope) (cl : List (Str × Addr)) (C : Addr) (env : Env) (i j k : Str) : Prop where
  kf : (compEnvC sc cl C env).scope.kind = .function
  li : (compEnvC sc cl C env).kindOf i = some .local
  lj : (compEnvC sc cl C env).kindOf j = some .local
  lk : (compEnvC sc cl C env).kindOf k = some .local
  b1 : (i == ("__debug__" : Str)) = false
  b2 : (j == ("__debug__" : Str)) = false
  b3 : (k == ("__debug__" : Str)) = false
  ij : i ≠ j
  ik : i ≠ k
  jk : j ≠ k
theorem Names3.notcls (x : Names3 sc cl C env i j k) : ((compEnvC sc cl C env).scope.kind == .class || ((compEnvC sc cl C env).scope.kind == .module && (compEnvC sc cl C env).locals != (compEnvC sc cl C env).globals)) = false := by rw [x.kf]; rfl

/-- how a range is made and walked in the block -/
def MakesRange (prog : Program) (w : World) (A : Around) (s₂ : Shared) (I0 : Addr) (n : Nat) (e : Expr) (cenv : Env) : Prop :=
  ∀ (t : Shared) (E' : Value → Shared → Prop) (Q' : Value → Shared → Prop), (∀ b o, b ≠ I0 → s₂.heap.get? b = some o → t.heap.get? b = some o) →
    (∀ J h' tk, t.heap.objs.size ≤ J → (∀ b o, t.heap.get? b = some o → h'.get? b = some o) → IsRangeIter h' J (0 + ((0 : Nat) : Int) * 1) ((n : Int) - ((0 : Nat) : Int)) 1 → Q' (.ref J) { t with heap := h', toks := tk }) →
    wpAny (model prog w) A (eval e cenv) (fun x s₃ => wpAny (model prog w) A (pyIter x) Q' E' s₃) E' t

theorem draws2 {h : Heap} {tk : Nat} {m : Str → Option Value} {a b : Nat} {ta tb : Tok} {J : Addr} {rows : List (List Nat)} (hA : A.handled = none) (M : Names3 sc cl C env i j k) (T : Trs s₂ D C I0 rows h) (hlen : rows.length + n ≤ 1000)
    (hn : h.Ns C m) (hi : m i = some (.int (a : Nat) ta)) (hj : m j = some (.int (b : Nat) tb)) (hI : IsRangeIter h J (0 + ((0 : Nat) : Int) * 1) ((n : Int) - ((0 : Nat) : Int)) 1)
    (hJ : s₂.heap.get? J = none) (hC : s₂.heap.get? C = none) (hD : s₂.heap.get? D = none) (hDC : D ≠ C) :
    codeAny (model prog w) A (.compStart (comp3 (elt4 i j k p1 p2 p3 p4 p5 p6 p7 k1) i j k pi pj pk e0 e1 e2 sc pos) 2 (.ref J) (.ref D) (compEnvC sc cl C env))
      (fun r s' => match r with
        | .ok _ => ∃ h' tk' m', s' = { s₂ with heap := h', toks := tk' } ∧ Trs s₂ D C I0 (rows ++ rows2 n a b) h' ∧ h'.Ns C m' ∧ m' i = m i ∧ m' j = m j ∧ (∀ q o, q ≠ J → q ≠ C → q ≠ D → h.get? q = some o → h'.get? q = some o)
        | .error _ => False) { s₂ with heap := h, toks := tk } := by
  have W := Walks.range (prog := prog) (w := w) (A := A) hA J 0 1 n
  have JC : J ≠ C := fun q => by
    obtain ⟨oC, es, ep, hoC, hdC, _⟩ := hn
    rw [q] at hI; rw [hI] at hoC; cases hoC; cases hdC
  have JD : J ≠ D := fun q => by
    obtain ⟨⟨rvs, ⟨o, ho, hc, _⟩, _⟩, _⟩ := T
    exact not_iter ho hc hI q.symm
  refine start3_2 (fun Q E hq => wpAny_pyIter_rangeiter hI hq) ?_
  refine loop3_2 W (fun p s' => ∃ h' tk' m', s' = { s₂ with heap := h', toks := tk' } ∧ Trs s₂ D C I0 (rows ++ (List.range p).map fun k => rep4 a b k) h' ∧ h'.Ns C m' ∧ m' i = m i ∧ m' j = m j ∧ IsRangeIter h' J (0 + ((p : Nat) : Int) * 1) ((n : Int) - ((p : Nat) : Int)) 1 ∧ p ≤ n ∧
    (∀ q o, q ≠ J → q ≠ C → q ≠ D → h.get? q = some o → h'.get? q = some o)) ?_ ⟨h, tk, m, rfl, by simpa using T, hn, rfl, rfl, hI, Nat.zero_le _, fun _ _ _ _ _ e => e⟩ ?_ ?_
  · rintro p s' ⟨h', tk', m', rfl, _, _, _, _, hI', _⟩
    exact hI'
  · rintro p v s' h1 tk1 E' hp ⟨h', tk', m', rfl, T', hn', mi, mj, hI', _, kp⟩ ⟨tv, rfl⟩ hst hk1
    have kk1 : ∀ q o, q ≠ J → h'.get? q = some o → h1.get? q = some o := fun q o hq e => hk1 q o (by simpa using hq) e
    refine wpAny_storeName_local M.lk (hn'.at' fun o e => kk1 C o (Ne.symm JC) e) (fun h2 hn2 hs2 => ?_) M.notcls
    have k2 : ∀ q o, q ≠ C → h1.get? q = some o → h2.get? q = some o := fun q o hq e => hs2.extBut q o hq e
    have kk : ∀ q o, q ≠ J → q ≠ C → h'.get? q = some o → h2.get? q = some o := fun q o h1 h2 e => k2 q o h2 (kk1 q o h1 e)
    have hv : (0 + (p : Int) * 1) = ((p : Nat) : Int) := by omega
    refine row4 (a := a) (b := b) (c := p) (ta := ta) (tb := tb) (tc := tv) hn2 (by show (if i = k then _ else m' i) = _; rw [if_neg M.ik, mi, hi]) (by show (if j = k then _ else m' j) = _; rw [if_neg M.jk, mj, hj]) (by show (if k = k then _ else m' k) = _; rw [if_pos rfl, hv])
      M.kf M.li M.lj M.lk M.b1 M.b2 M.b3 ?_
    intro h3 tk3 X rv k3 nX lX ixX
    obtain ⟨⟨rvs, hD', hRow⟩, hold⟩ := T'
    have hD3 : h3.IsList D rvs.toArray := hD'.at fun o e => k3 _ _ (kk D o (Ne.symm JD) hDC e)
    have XD : X ≠ D := fun q => by
      obtain ⟨o, ho, _⟩ := hD'
      have := kk D o (Ne.symm JD) hDC ho
      rw [← q, show h2.get? X = none from nX] at this
      cases this
    have hsz : rvs.toArray.size ≤ sizeLine := by
      refine Nat.le_trans (?_ : rvs.toArray.size ≤ 1000) (by decide)
      have := hRow.1
      simp only [List.size_toArray]
      rw [this, List.length_append, List.length_map, List.length_range]
      omega
    refine wpAny_list_append hD3 (fun h4 hD4 hs4 => ?_) hsz
    have k4 : ∀ q o, q ≠ D → h3.get? q = some o → h4.get? q = some o := fun q o hq e => hs4.extBut q o hq e
    refine ⟨h4, tk3, _, rfl, ⟨⟨rvs ++ [.ref X], by simpa using hD4, ?_⟩, fun q o hq e => ?_⟩, (hn2.keeps k3).at' fun o e => k4 C o (Ne.symm hDC) e, ?_, ?_, ?_, hp, fun q o h1 h2 hq e => ?_⟩
    · rw [List.range_succ, List.map_append, ← List.append_assoc]
      exact RowsOff.snoc (hRow.at fun q o hq e hc hsq => k4 q o hq (k3 q o (kk q o (not_iter e hc hI') (not_ns e hsq hn') e))) XD (lX.at fun o e => k4 X o XD e) ixX
    · refine k4 q o (fun z => ?_) (k3 q o (kk q o (fun z => ?_) (fun z => ?_) (hold q o hq e)))
      · rw [z, hD] at e; cases e
      · rw [z, hJ] at e; cases e
      · rw [z, hC] at e; cases e
    · show (if i = k then _ else m' i) = _; rw [if_neg M.ik, mi]
    · show (if j = k then _ else m' j) = _; rw [if_neg M.jk, mj]
    · exact k4 J _ JD (k3 _ _ (k2 J _ JC hst))
    · exact k4 q o hq (k3 q o (kk q o h1 h2 (kp q o h1 h2 hq e)))
  · rintro s' h1 tk1 ⟨h', tk', m', rfl, T', hn', mi, mj, hI', _, kp⟩ hk1
    have kk1 : ∀ q o, q ≠ J → h'.get? q = some o → h1.get? q = some o := fun q o hq e => hk1 q o (by simpa using hq) e
    refine ⟨h1, tk1, m', rfl, Trs.at T' (fun o e => kk1 D o (Ne.symm JD) e) (fun q o hq e hc hsq => kk1 q o (not_iter e hc hI') e) (fun q o hq e0 e => kk1 q o (fun z => by rw [z, hJ] at e0; cases e0) e), hn'.at' fun o e => kk1 C o (Ne.symm JC) e, mi, mj, fun q o h1 h2 hq e => kk1 q o h1 (kp q o h1 h2 hq e)⟩

theorem draws1 {h : Heap} {tk : Nat} {m : Str → Option Value} {a : Nat} {ta : Tok} {J : Addr} {rows : List (List Nat)} (hA : A.handled = none) (hn6 : n ≤ 6) (M : Names3 sc cl C env i j k) (T : Trs s₂ D C I0 rows h) (hlen : rows.length + n * n ≤ 900)
    (hn : h.Ns C m) (hi : m i = some (.int (a : Nat) ta)) (hI : IsRangeIter h J (0 + ((0 : Nat) : Int) * 1) ((n : Int) - ((0 : Nat) : Int)) 1) (hm : MakesRange prog w A s₂ I0 n e2 (compEnvC sc cl C env)) (hs : ∀ x, foldedSetIterable e2 (compEnvC sc cl C env) x = pure x)
    (hJ : s₂.heap.get? J = none) (hC : s₂.heap.get? C = none) (hDs : s₂.heap.objs.size ≤ D) (hDC : D ≠ C) :
    codeAny (model prog w) A (.compStart (comp3 (elt4 i j k p1 p2 p3 p4 p5 p6 p7 k1) i j k pi pj pk e0 e1 e2 sc pos) 1 (.ref J) (.ref D) (compEnvC sc cl C env))
      (fun r s' => match r with
        | .ok _ => ∃ h' tk' m', s' = { s₂ with heap := h', toks := tk' } ∧ Trs s₂ D C I0 (rows ++ rows1 n a) h' ∧ h'.Ns C m' ∧ m' i = m i ∧ (∀ q o, q ≠ J → q ≠ C → q ≠ D → h.get? q = some o → h'.get? q = some o)
        | .error _ => False) { s₂ with heap := h, toks := tk } := by
  have hD : s₂.heap.get? D = none := Heap.get?_none_of_le hDs
  have W := Walks.range (prog := prog) (w := w) (A := A) hA J 0 1 n
  have JC : J ≠ C := fun q => by
    obtain ⟨oC, es, ep, hoC, hdC, _⟩ := hn
    rw [q] at hI; rw [hI] at hoC; cases hoC; cases hdC
  have JD : J ≠ D := fun q => by
    obtain ⟨⟨rvs, ⟨o, ho, hc, _⟩, _⟩, _⟩ := T
    exact not_iter ho hc hI q.symm
  refine start3_1 (fun Q E hq => wpAny_pyIter_rangeiter hI hq) ?_
  refine loop3_1 W (fun p s' => ∃ h' tk' m', s' = { s₂ with heap := h', toks := tk' } ∧ Trs s₂ D C I0 (rows ++ (List.range p).flatMap fun j => rows2 n a j) h' ∧ h'.Ns C m' ∧ m' i = m i ∧ IsRangeIter h' J (0 + ((p : Nat) : Int) * 1) ((n : Int) - ((p : Nat) : Int)) 1 ∧ p ≤ n ∧
    (∀ q o, q ≠ J → q ≠ C → q ≠ D → h.get? q = some o → h'.get? q = some o)) ?_ ⟨h, tk, m, rfl, by simpa using T, hn, rfl, hI, Nat.zero_le _, fun _ _ _ _ _ e => e⟩ ?_ ?_ hs
  · rintro p s' ⟨h', tk', m', rfl, _, _, _, hI', _⟩
    exact hI'
  · rintro p v s' h1 tk1 E' hp ⟨h', tk', m', rfl, T', hn', mi, hI', _, kp⟩ ⟨tv, rfl⟩ hst hk1
    have kk1 : ∀ q o, q ≠ J → h'.get? q = some o → h1.get? q = some o := fun q o hq e => hk1 q o (by simpa using hq) e
    refine wpAny_storeName_local M.lj (hn'.at' fun o e => kk1 C o (Ne.symm JC) e) (fun h2 hn2 hs2 => ?_) M.notcls
    have k2 : ∀ q o, q ≠ C → h1.get? q = some o → h2.get? q = some o := fun q o hq e => hs2.extBut q o hq e
    have kk : ∀ q o, q ≠ J → q ≠ C → h'.get? q = some o → h2.get? q = some o := fun q o h1 h2 e => k2 q o h2 (kk1 q o h1 e)
    have hv : (0 + (p : Int) * 1) = ((p : Nat) : Int) := by omega
    have T2 : Trs s₂ D C I0 (rows ++ (List.range p).flatMap fun j => rows2 n a j) h2 := Trs.at T' (fun o e => kk D o (Ne.symm JD) hDC e) (fun q o hq e hc hsq => kk q o (not_iter e hc hI') (not_ns e hsq hn') e)
      (fun q o hq e0 e => kk q o (fun z => by rw [z, hJ] at e0; cases e0) (fun z => by rw [z, hC] at e0; cases e0) e)
    refine hm _ _ _ T2.old fun K h3 tk3 hK k3 hI3 => ?_
    dsimp only at hK k3
    have nK : h2.get? K = none := Heap.get?_none_of_le hK
    have T3 : Trs s₂ D C I0 (rows ++ (List.range p).flatMap fun j => rows2 n a j) h3 := Trs.at T2 (fun o e => k3 _ _ e) (fun q o _ e _ _ => k3 _ _ e) (fun q o _ _ e => k3 _ _ e)
    have n3 : h3.Ns C _ := hn2.keeps k3
    have oldK : s₂.heap.get? K = none := by
      obtain ⟨⟨_, ⟨oD, hoD, _⟩, _⟩, _⟩ := T2
      exact Heap.get?_none_of_le (Nat.le_trans hDs (Nat.le_trans (Nat.le_of_lt (Heap.lt_size hoD)) hK))
    have hl2 : (rows ++ (List.range p).flatMap fun j => rows2 n a j).length ≤ rows.length + p * n := by
      rw [List.length_append]
      have : ∀ p : Nat, ((List.range p).flatMap fun j => rows2 n a j).length = p * n := fun p => by
        induction p with
        | zero => simp
        | succ p ih => rw [List.range_succ, List.flatMap_append, List.length_append, ih]; simp [rows2, Nat.succ_mul]
      rw [this]
      exact Nat.le_refl _
    have hpn : p * n + n ≤ n * n := by
      have := Nat.mul_le_mul_right n hp
      rw [Nat.succ_mul] at this
      exact this
    refine codeAny_mono (draws2 (s₂ := s₂) (h := h3) (tk := tk3) hA M T3 (by omega) n3 (by show (if i = j then _ else m' i) = _; rw [if_neg M.ij, mi, hi]) (by show (if j = j then _ else m' j) = _; rw [if_pos rfl, hv]) hI3 oldK hC hD hDC) fun r s5 h5 => ?_
    cases r with
    | error e => exact h5.elim
    | ok f =>
      obtain ⟨h5, tk5, m5, rfl, T5, n5, mi5, mj5, k5⟩ := h5
      have JK : J ≠ K := fun q => by
        have := k2 J _ JC hst
        rw [q, nK] at this; cases this
      refine ⟨h5, tk5, m5, rfl, ?_, n5, ?_, k5 J _ JK JC JD (k3 _ _ (k2 J _ JC hst)), hp, fun q o h1 h2' hq e => ?_⟩
      · rw [List.range_succ, List.flatMap_append, ← List.append_assoc]
        simpa using T5
      · rw [mi5]; show (if i = j then _ else m' i) = _; rw [if_neg M.ij, mi]
      · have e2 := kk q o h1 h2' (kp q o h1 h2' hq e)
        exact k5 q o (fun z => by rw [z, nK] at e2; cases e2) h2' hq (k3 _ _ e2)
  · rintro s' h1 tk1 ⟨h', tk', m', rfl, T', hn', mi, hI', _, kp⟩ hk1
    have kk1 : ∀ q o, q ≠ J → h'.get? q = some o → h1.get? q = some o := fun q o hq e => hk1 q o (by simpa using hq) e
    refine ⟨h1, tk1, m', rfl, Trs.at T' (fun o e => kk1 D o (Ne.symm JD) e) (fun q o hq e hc hsq => kk1 q o (not_iter e hc hI') e) (fun q o hq e0 e => kk1 q o (fun z => by rw [z, hJ] at e0; cases e0) e), hn'.at' fun o e => kk1 C o (Ne.symm JC) e, mi, fun q o h1 h2 hq e => kk1 q o h1 (kp q o h1 h2 hq e)⟩
end
end Mine
end
theorem Mine.anewLc7 : True := by
  w_top off
  exact trivial
section
open PySem PySem.W PySem.Calls PyProof.Rows
set_option Elab.async false
set_option maxRecDepth 100000
set_option linter.unusedVariables false
namespace Mine
section
variable {prog : Program} {w : World} {A : Around} {E : Value → Shared → Prop} {env : Env} {i j k : Str} {pi pj pk p1 p2 p3 p4 p5 p6 p7 : Pos} {k1 : Nat} {e0 e1 e2 : Expr} {sc : Scope} {pos : Pos} {cl : List (Str × Addr)} {s : Shared} {n : Nat} {Q : Value → Shared → Prop}
theorem triples_core {I : Addr} {s₂ : Shared} {RR : Value → Addr → Result → Shared → Prop} (hA : A.handled = none) (hn6 : n ≤ 6)
    (hI : IsRangeIter s₂.heap I (0 + ((0 : Nat) : Int) * 1) ((n : Int) - ((0 : Nat) : Int)) 1) (hm1 : ∀ C, MakesRange prog w A s₂ I n e1 (compEnvC sc cl C env)) (hm2 : ∀ C, MakesRange prog w A s₂ I n e2 (compEnvC sc cl C env))
    (hRR : ∀ D C h' tk rvs m, (∀ b o, b ≠ I → s₂.heap.get? b = some o → h'.get? b = some o) → s₂.heap.get? D = none → s₂.heap.get? C = none → D ≠ C → h'.Ns C m → h'.IsList D rvs.toArray → RowsAre h' rvs (triples n) → RR (.ref D) C (.ok .next) { s₂ with heap := h', toks := tk })
    (hcell : ∀ y ∈ sc.names, y.2 ≠ .cell) (hkind : sc.kind = .function)
    (M : ∀ C, Names3 sc cl C env i j k) (hs1 : ∀ C x, foldedSetIterable e1 (compEnvC sc cl C env) x = pure x) (hs2 : ∀ C x, foldedSetIterable e2 (compEnvC sc cl C env) x = pure x) :
    wpAny (model prog w) A (newList []) (fun acc s₃ => wpAny (model prog w) A (newFunctionEnv sc env.globals cl [] env.qual none .none (some env)) (fun cenv s₄ =>
      codeAny (model prog w) A (.compStart (comp3 (elt4 i j k p1 p2 p3 p4 p5 p6 p7 k1) i j k pi pj pk e0 e1 e2 sc pos) 0 (.ref I) acc { cenv with scope := relabel sc env }) (RR acc cenv.locals) s₄) E s₃) E s₂ := by
  have hIlt : I < s₂.heap.objs.size := Heap.lt_size hI
  refine wpAny_newObj_type (wpAny_newFunctionEnv hcell (by intro y hy; simp at hy) (fun H hns0 hsb0 => ?_) hkind)
  dsimp only at hns0 hsb0 ⊢
  generalize hH1 : s₂.heap.push { cls := .type "list", dict := none, data := .seq ([] : List Value).toArray } = H1 at hns0 hsb0 ⊢
  have hsz1 : H1.objs.size = s₂.heap.objs.size + 1 := by rw [← hH1, Heap.size_push]
  have hDs : s₂.heap.objs.size ≤ s₂.heap.objs.size := Nat.le_refl _
  have hDl1 : H1.get? s₂.heap.objs.size = some { cls := .type "list", dict := none, data := .seq ([] : List Value).toArray } := hH1 ▸ Heap.get?_push_size _ rfl
  have k1' : ∀ b o, s₂.heap.get? b = some o → H1.get? b = some o := fun b o e => hH1 ▸ Heap.get?_push_of_some _ e
  generalize hC : H1.objs.size = C at *
  have hDC : s₂.heap.objs.size ≠ C := by rw [hsz1]; exact Nat.ne_of_lt (Nat.lt_succ_self _)
  have nC : s₂.heap.get? C = none := Heap.get?_none_of_le (by rw [hsz1]; exact Nat.le_succ _)
  have kH : ∀ b o, b ≠ C → H1.get? b = some o → H.get? b = some o := fun b o hb e => hsb0.extBut b o hb (Heap.get?_push_of_some _ e)
  have neC : ∀ {b o}, s₂.heap.get? b = some o → b ≠ C := fun e q => by rw [q, nC] at e; cases e
  have k0 : ∀ b o, s₂.heap.get? b = some o → H.get? b = some o := fun b o e => kH b o (neC e) (k1' b o e)
  have hDl : H.IsList s₂.heap.objs.size ([] : List Value).toArray := ⟨_, kH _ _ hDC hDl1, rfl, _, rfl⟩
  have W := Walks.range (prog := prog) (w := w) (A := A) hA I 0 1 n
  have IC : I ≠ C := neC hI
  have ID : I ≠ s₂.heap.objs.size := Nat.ne_of_lt hIlt
  have nD : s₂.heap.get? s₂.heap.objs.size = none := Heap.get?_none_of_le (Nat.le_refl _)
  have T0 : Trs s₂ s₂.heap.objs.size C I [] H := ⟨⟨[], hDl, rfl, fun i v hv => by simp at hv⟩, fun b o _ e => k0 b o e⟩
  have loop : ∀ tk0, codeAny (model prog w) A (.compLoop (comp3 (elt4 i j k p1 p2 p3 p4 p5 p6 p7 k1) i j k pi pj pk e0 e1 e2 sc pos) 0 (.ref I) (.ref s₂.heap.objs.size) (compEnvC sc cl C env)) (RR (.ref s₂.heap.objs.size) C) { s₂ with heap := H, toks := tk0 } := by
    intro tk0
    refine loop3_0 W (fun p s' => ∃ h' tk' m', s' = { s₂ with heap := h', toks := tk' } ∧ Trs s₂ s₂.heap.objs.size C I ((List.range p).flatMap fun i => rows1 n i) h' ∧ h'.Ns C m' ∧ IsRangeIter h' I (0 + ((p : Nat) : Int) * 1) ((n : Int) - ((p : Nat) : Int)) 1 ∧ p ≤ n) ?_ ⟨H, tk0, _, rfl, T0, hns0, k0 _ _ hI, Nat.zero_le _⟩ ?_ ?_ (hs1 C)
    · rintro p s' ⟨h', tk', m', rfl, _, _, hI', _⟩
      exact hI'
    · rintro p v s' h1 tk1 E' hp ⟨h', tk', m', rfl, T', hn', hI', _⟩ ⟨tv, rfl⟩ hst hk1
      have kk1 : ∀ q o, q ≠ I → h'.get? q = some o → h1.get? q = some o := fun q o hq e => hk1 q o (by simpa using hq) e
      refine wpAny_storeName_local (M C).li (hn'.at' fun o e => kk1 C o (Ne.symm IC) e) (fun h2 hn2 hs2' => ?_) (M C).notcls
      have k2 : ∀ q o, q ≠ C → h1.get? q = some o → h2.get? q = some o := fun q o hq e => hs2'.extBut q o hq e
      have kk : ∀ q o, q ≠ I → q ≠ C → h'.get? q = some o → h2.get? q = some o := fun q o h1 h2 e => k2 q o h2 (kk1 q o h1 e)
      have hv : (0 + (p : Int) * 1) = ((p : Nat) : Int) := by omega
      have T2 : Trs s₂ s₂.heap.objs.size C I ((List.range p).flatMap fun i => rows1 n i) h2 := Trs.at T' (fun o e => kk _ o (Ne.symm ID) hDC e) (fun q o hq e hc hsq => kk q o (not_iter e hc hI') (not_ns e hsq hn') e)
        (fun q o hq e0 e => kk q o hq (neC e0) e)
      refine hm1 C _ _ _ T2.old fun K h3 tk3 hK k3 hI3 => ?_
      dsimp only at hK k3
      have nK : h2.get? K = none := Heap.get?_none_of_le hK
      have T3 : Trs s₂ s₂.heap.objs.size C I ((List.range p).flatMap fun i => rows1 n i) h3 := Trs.at T2 (fun o e => k3 _ _ e) (fun q o _ e _ _ => k3 _ _ e) (fun q o _ _ e => k3 _ _ e)
      have n3 : h3.Ns C _ := hn2.keeps k3
      have oldK : s₂.heap.get? K = none := by
        obtain ⟨⟨_, ⟨oD, hoD, _⟩, _⟩, _⟩ := T2
        exact Heap.get?_none_of_le (Nat.le_trans (Nat.le_of_lt (Heap.lt_size hoD)) hK)
      have l2 : ∀ p : Nat, (rows1 n p).length = n * n := fun i => by
        have : ∀ p : Nat, ((List.range p).flatMap fun j => rows2 n i j).length = p * n := fun p => by
          induction p with
          | zero => simp
          | succ p ih => rw [List.range_succ, List.flatMap_append, List.length_append, ih]; simp [rows2, Nat.succ_mul]
        exact this n
      have l1 : ∀ p : Nat, ((List.range p).flatMap fun i => rows1 n i).length = p * (n * n) := fun p => by
        induction p with
        | zero => simp
        | succ p ih => rw [List.range_succ, List.flatMap_append, List.length_append, ih]; simp [l2, Nat.succ_mul]
      have hnn : n * n ≤ 6 * 6 := Nat.mul_le_mul hn6 hn6
      have hpn : p * (n * n) ≤ 6 * (6 * 6) := Nat.mul_le_mul (by omega) hnn
      refine codeAny_mono (draws1 (s₂ := s₂) (h := h3) (tk := tk3) hA hn6 (M C) T3 (by rw [l1]; omega) n3 (by show (if i = i then _ else m' i) = _; rw [if_pos rfl, hv]) hI3 (hm2 C) (hs2 C) oldK nC (Nat.le_refl _) hDC) fun r s5 h5 => ?_
      cases r with
      | error e => exact h5.elim
      | ok f =>
        obtain ⟨h5, tk5, m5, rfl, T5, n5, mi5, k5⟩ := h5
        have IK : I ≠ K := fun q => by
          have := k2 I _ IC hst
          rw [q, nK] at this; cases this
        refine ⟨h5, tk5, m5, rfl, ?_, n5, k5 I _ IK IC ID (k3 _ _ (k2 I _ IC hst)), hp⟩
        rw [List.range_succ, List.flatMap_append]
        simpa using T5
    · rintro s' h1 tk1 ⟨h', tk', m', rfl, T', hn', hI', _⟩ hk1
      have kk1 : ∀ q o, q ≠ I → h'.get? q = some o → h1.get? q = some o := fun q o hq e => hk1 q o (by simpa using hq) e
      obtain ⟨⟨rvs, hD', hRow⟩, hold⟩ := T'
      exact hRR _ C h1 tk1 rvs m' (fun b o hb e => kk1 b o hb (hold b o hb e)) nD nC hDC (hn'.at' fun o e => kk1 C o (Ne.symm IC) e) (hD'.at fun o e => kk1 _ o (Ne.symm ID) e) (hRow.at fun b o hb e hc hsq => kk1 b o (not_iter e hc hI') e).rows
  exact start3_0 (fun Q E hq => wpAny_pyIter_rangeiter (k0 _ _ hI) hq) (loop _)

/-- behind a block whose list is bound to a local name -/
def AsgPost (env : Env) (y : Str) (Q : Flow → Shared → Prop) (acc : Value) (C : Addr) (r : Result) (s' : Shared) : Prop := match r with
  | .ok _ => ∃ m mE, s'.heap.Ns C m ∧ s'.heap.Ns env.locals mE ∧ C ≠ env.locals ∧ ∀ h', h'.Ns env.locals (fun z => if z = y then some acc else mE z) → (∀ b o, b ≠ env.locals → b ≠ C → s'.heap.get? b = some o → h'.get? b = some o) → Q .next { s' with heap := h', toks := s'.toks + 1 }
  | .error _ => False

theorem exec_assign_comp {elt target iter : Expr} {ifs : List Expr} {gs : List Comprehension} {y : Str} {py spos : Pos} {Q : Flow → Shared → Prop}
    (hsw : swapsWith (.ListComp elt (⟨target, iter, ifs, 0⟩ :: gs) sc pos) (some (.Name y py)) spos.line env = pure true) (hs : ∀ x, foldedSetIterable iter env x = pure x) (hclos : closureFor sc env = pure cl)
    (hkind : sc.kind = .function) (hnames : ∀ x ∈ sc.names, x.2 = .local → sc.names.lookup x.1 = some .local) (hy : env.kindOf y = some .local) (hp : (env.scope.kind == .class || (env.scope.kind == .module && env.locals != env.globals)) = false)
    (h : wpAny (model prog w) A (eval iter env) (fun x s₁ => wpAny (model prog w) A (pyIter x) (fun it s₂ => wpAny (model prog w) A (newList []) (fun acc s₃ => wpAny (model prog w) A (newFunctionEnv sc env.globals cl [] env.qual none .none (some env)) (fun cenv s₄ =>
      codeAny (model prog w) A (.compStart (.ListComp elt (⟨target, iter, ifs, 0⟩ :: gs) sc pos) 0 it acc { cenv with scope := relabel sc env }) (AsgPost env y Q acc cenv.locals) s₄) E s₃) E s₂) E s₁) E s) :
    wpAny (model prog w) A (exec (.Assign [.Name y py] (.ListComp elt (⟨target, iter, ifs, 0⟩ :: gs) sc pos) spos) env) Q E s := by
  rw [exec_Assign_Name_used _ _ _ _ hsw]
  refine wpAny_bind (wpAny_standAt (wpAny_bind ?_))
  show wpAny _ A (do let _ ← comprehension (.ListComp elt (⟨target, iter, ifs, 0⟩ :: gs) sc pos) sc env _ (newList []) false (eval iter env) (some (assign (.Name y py) env))) _ _ s
  refine wpAny_bind (wpAny_mono (wpAny_comprehension_free (use := some (assign (.Name y py) env)) (Q := fun _ s' => Q .next s') rfl hs hclos hkind hnames
    (wpAny_mono h (fun x s₁ h₁ => wpAny_mono h₁ (fun it s₂ h₂ => wpAny_mono h₂ (fun acc s₃ h₃ => wpAny_mono h₃ (fun cenv s₄ h₄ => codeAny_mono h₄ fun r s' hr => ?_) fun _ _ e => e) fun _ _ e => e) fun _ _ e => e) fun _ _ e => e)) (fun _ s' hq => wpAny_pure (wpAny_pure hq)) fun _ _ e => e)
  cases r with
  | error x => exact hr.elim
  | ok f =>
    obtain ⟨m, mE, hC, hE, hne, hQ⟩ := hr
    refine wpAny_assign_Name (wpAny_storeName_local hy hE (fun h' hn' hs' => ?_) hp)
    refine ⟨m, hC.sameBut hs' hne, fun h'' hs'' => ?_⟩
    exact hQ h'' (hn'.sameBut hs'' (Ne.symm hne)) fun b o h1 h2 e => hs''.extBut b o h2 (hs'.extBut b o h1 e)
end
end Mine
end
theorem Mine.anewLc8 : True := by
  w_top off
  exact trivial
section
open PySem PySem.W PySem.Calls PyProof.Rows
set_option Elab.async false
set_option maxRecDepth 100000
set_option linter.unusedVariables false
namespace Mine
/-- the value is a list of that length -/
def lenIs (h : Heap) (size : Nat) (v : Value) : Bool := match v with
  | .ref r => match h.get? r with
    | some o => match o.data with
      | .seq items _ => items.size == size
      | _ => false
    | none => false
  | _ => false
theorem lenIs_list {h : Heap} {size : Nat} {r : Addr} {rv : List Value} (hl : h.IsList r rv.toArray) : lenIs h size (.ref r) = (rv.length == size) := by
  obtain ⟨o, ho, hc, n, hd⟩ := hl
  simp [lenIs, ho, hd]
theorem rows_cons {h : Heap} {v : Value} {rvs : List Value} {rows : List (List Nat)} (x : RowsAre h (v :: rvs) rows) : ∃ r rv ix rows', rows = ix :: rows' ∧ v = .ref r ∧ h.IsList r rv.toArray ∧ IxAre rv ix ∧ RowsAre h rvs rows' := by
  cases rows with
  | nil => have := x.1; simp at this
  | cons ix rows' =>
    obtain ⟨r, rv, ix', e, hl, hi, hx⟩ := x.2 0 v rfl
    cases hi
    exact ⟨r, rv, ix, rows', rfl, e, hl, hx, by simpa using x.1, fun i v hv => x.2 (i + 1) v (by simpa using hv)⟩
theorem rowsCons {h : Heap} {r : Addr} {rv rvs : List Value} {ix : List Nat} {rows : List (List Nat)} (hl : h.IsList r rv.toArray) (hx : IxAre rv ix) (x : RowsAre h rvs rows) : RowsAre h (.ref r :: rvs) (ix :: rows) :=
  ⟨by simpa using x.1, fun i v hv => by
    cases i with
    | zero => simp at hv; exact ⟨r, rv, ix, hv.symm, hl, rfl, hx⟩
    | succ i => simp at hv; exact x.2 i v hv⟩
theorem rows_filter {h : Heap} {size : Nat} : ∀ (rvs : List Value) (rows : List (List Nat)), RowsAre h rvs rows → RowsAre h (rvs.filter (lenIs h size)) (rows.filter fun ix => ix.length == size)
  | [], rows, x => by
    have : rows = [] := List.eq_nil_of_length_eq_zero x.1.symm
    subst this
    exact x
  | v :: rvs, rows, x => by
    obtain ⟨r, rv, ix, rows', rfl, rfl, hl, hx, x'⟩ := rows_cons x
    have ih := rows_filter (size := size) rvs rows' x'
    rw [List.filter_cons, List.filter_cons, lenIs_list hl, hx.1]
    split
    · exact rowsCons hl hx ih
    · exact ih
theorem RowsAre.at {h h' : Heap} {rvs : List Value} {rows : List (List Nat)} (x : RowsAre h rvs rows) (k : ∀ b o, h.get? b = some o → o.cls = .type "list" → h'.get? b = some o) : RowsAre h' rvs rows := ⟨x.1, fun i v hv => by
  obtain ⟨r, rv, ix, a, ⟨o, ho, hc, n, hd⟩, d, e⟩ := x.2 i v hv
  exact ⟨r, rv, ix, a, ⟨o, k _ _ ho hc, hc, n, hd⟩, d, e⟩⟩

theorem RowsAre.at2 {h h' : Heap} {rvs : List Value} {rows : List (List Nat)} (x : RowsAre h rvs rows) (k : ∀ b o, h.get? b = some o → (∃ items m, o.data = .seq items m) → h'.get? b = some o) : RowsAre h' rvs rows := ⟨x.1, fun i v hv => by
  obtain ⟨r, rv, ix, a, ⟨o, ho, hc, n, hd⟩, d, e⟩ := x.2 i v hv
  exact ⟨r, rv, ix, a, ⟨o, k _ _ ho ⟨_, _, hd⟩, hc, n, hd⟩, d, e⟩⟩
section
variable {prog : Program} {w : World} {A : Around} {E : Value → Shared → Prop} {s : Shared}
theorem asg_size {env : Env} {sm ln sz y : Str} {py spos : Pos} {m : Str → Option Value} {iter : Expr} {p0 p1 p2 p3 p4 p5 px pos : Pos} {scope : Scope} {cl : List (Str × Addr)} {c r : Addr} {rvs : List Value} {rows : List (List Nat)} {size : Nat} {t : Tok} {o : Obj} {Q : Flow → Shared → Prop}
    (hA : A.handled = none) (hiter : ∀ Q' : Value → Shared → Prop, Q' (.ref r) s → wpAny (model prog w) A (eval iter env) Q' E s) (hr : s.heap.IsList r rvs.toArray) (hrows : RowsAre s.heap rvs rows) (hlen : rows.length ≤ 1000) (hsm : ∀ ix ∈ rows, ix.length ≤ 1000)
    (ho : s.heap.get? c = some o) (hd : o.data = .cell (some (.int (size : Nat) t)))
    (hln : ∀ (C : Addr) (t : Shared) (E' : Value → Shared → Prop) (Q' : Value → Shared → Prop), (∀ b o, s.heap.get? b = some o → t.heap.get? b = some o) → Q' (.builtin "len") t → wpAny (model prog w) A (eval (.Name ln p1) (compEnvC scope cl C env)) Q' E' t)
    (hn : s.heap.Ns env.locals m)
    (h : ∀ D h' tk ys, (∀ b o, b ≠ env.locals → s.heap.get? b = some o → h'.get? b = some o) → s.heap.get? D = none → h'.Ns env.locals (fun z => if z = y then some (.ref D) else m z) → h'.IsList D ys.toArray → RowsAre h' ys (rows.filter fun ix => ix.length == size) → Q .next { s with heap := h', toks := tk })
    (hsw : swapsWith (.ListComp (.Name sm p0) [⟨.Name sm px, iter, [.Compare (.Call (.Name ln p1) [.Name sm p2] [] p3) [.Eq] [.Name sz p4] p5], 0⟩] scope pos) (some (.Name y py)) spos.line env = pure true) (hy : env.kindOf y = some .local) (hp : (env.scope.kind == .class || (env.scope.kind == .module && env.locals != env.globals)) = false)
    (hcl : cl.lookup sz = some c) (hkm : (relabel scope env).names.lookup sz = some .cell)
    (hclos : closureFor scope env = pure cl) (hcell : ∀ y ∈ scope.names, y.2 ≠ .cell) (hkind : scope.kind = .function)
    (hnames : ∀ y ∈ scope.names, y.2 = .local → scope.names.lookup y.1 = some .local) (hx : scope.names.lookup sm = some .local) (hb1 : (sm == ("__debug__" : Str)) = false) (hb2 : (sz == ("__debug__" : Str)) = false)
    (hs : ∀ x, foldedSetIterable iter env x = pure x) (hcall : ∀ C, eval (.Call (.Name ln p1) [.Name sm p2] [] p3) (compEnvC scope cl C env) = (do callWith p3 (← eval (.Name ln p1) (compEnvC scope cl C env)) [] (backTo p3 (starEach [.Name sm p2] (compEnvC scope cl C env))) (backToKw p3 (keywordEach [] (compEnvC scope cl C env))))) :
    wpAny (model prog w) A (exec (.Assign [.Name y py] (.ListComp (.Name sm p0) [⟨.Name sm px, iter, [.Compare (.Call (.Name ln p1) [.Name sm p2] [] p3) [.Eq] [.Name sz p4] p5], 0⟩] scope pos) spos) env) Q E s := by
  have hlt : r < s.heap.objs.size := by obtain ⟨_, e, _⟩ := hr; exact Heap.lt_size e
  refine wpAny_Assign_ListComp_free (lenIs s.heap size) (fun v y => y = v) hsw hclos hcell hkind hnames hx hy hp (hiter _ (wpAny_pyIter_list hr ?_)) hs
  have hLlt : env.locals < s.heap.objs.size := hn.lt
  have up : ∀ b o, s.heap.get? b = some o → (s.heap.push { cls := .type "list_iterator", data := .fields #[.ref r, .int 0 0] }).get? b = some o := fun b o e => Heap.get?_push_of_some _ e
  refine ⟨_, [s.heap.objs.size, r], [s.heap.objs.size], rvs.toArray.size, _, _, m, rfl, Walks.list hA s.heap.objs.size r (Nat.ne_of_lt hlt) rvs.toArray, ?_, ⟨⟨_, Heap.get?_push_size _ rfl, rfl, rfl⟩, hr.push _⟩, ?_, (fun q => Nat.ne_of_lt hLlt (List.mem_singleton.mp q)), hn.push _, ⟨?_, ?_⟩, ?_⟩
  · refine Nat.le_trans (?_ : rvs.toArray.size ≤ 1000) (by decide)
    have := hrows.1
    simp only [List.size_toArray]; omega
  · intro b hb
    show b < (s.heap.push _).objs.size
    rw [Heap.size_push]
    rcases List.mem_cons.mp hb with rfl | hb
    · exact Nat.lt_succ_self _
    · rw [List.mem_singleton.mp hb]; exact Nat.lt_succ_of_lt hlt
  · intro C j v s₃ m₃ E' hC hP hn' hm hk ht
    obtain ⟨x, rv, ix, rfl, hl, hix, hrv⟩ := hrows.2 j v (by simpa using hP)
    have old : ∀ b o, s.heap.get? b = some o → s₃.heap.get? b = some o := fun b o e => hk b o (fun q => by
      rw [List.mem_singleton.mp q] at e
      exact Nat.lt_irrefl _ (Heap.lt_size e)) (up b o e)
    have hkf : (compEnvC scope cl C env).scope.kind = .function := by simp [compEnvC, relabel, hkind]
    have hl3 : s₃.heap.IsList x rv.toArray := hl.at fun _ e => old _ _ e
    have hb := hsm ix (List.mem_of_getElem? hix)
    refine wpAny_tests_one (wpAny_isTrue_Compare1 (Call_ (hln C _ _ _ old (callWith_builtin1 (spliced_more (wpAny_Name (wpAny_loadName_local hkf (lookup_relabel_local hx) hn' hm (spliced_none ?_)) hb1)))) (hcall C)))
    refine call_len_list hl3 (by have := hrv.1; simp only [List.size_toArray]; omega) ?_
    refine wpAny_Name (wpAny_loadName_cell hkf hkm hcl ⟨o, old _ _ ho, hd⟩ (eq_int (wpAny_truthy_bool ⟨?_, ⟨_, _, rfl, fun _ _ e => e⟩⟩))) hb2
    rw [lenIs_list hl]
    simp only [List.size_toArray]
    by_cases hq : rv.length = size
    · simp [hq]
    · have : ¬ ((rv.length : Int) = (size : Int)) := fun z => hq (Int.ofNat_inj.mp z)
      exact (beq_eq_false_iff_ne.mpr this).trans (beq_eq_false_iff_ne.mpr hq).symm
  · intro C j v s₃ m₃ E' hC hP _ hn' hm hk ht
    exact wpAny_Name (wpAny_loadName_local (by simp [compEnvC, relabel, hkind]) (lookup_relabel_local hx) hn' hm ⟨rfl, ⟨_, _, rfl, fun _ _ e => e⟩⟩) hb1
  · intro D h' tk ys vs' hD hy' _ hvl' hP hF hns' hk
    have e : vs' = rvs := by
      apply List.ext_getElem?
      intro j
      cases hj : vs'[j]? with
      | none =>
        have : vs'.length ≤ j := List.getElem?_eq_none_iff.mp hj
        exact (List.getElem?_eq_none_iff.mpr (by simp at hvl'; omega)).symm
      | some v => exact (by simpa using (hP j v hj).symm)
    subst e
    have e2 := paired_eq hF
    have keep : ∀ b o, b ≠ env.locals → s.heap.get? b = some o → h'.get? b = some o := fun b o hb e => hk b o hb (fun q => by
      rw [List.mem_singleton.mp q] at e
      exact Nat.lt_irrefl _ (Heap.lt_size e)) (up b o e)
    refine h D h' tk ys.toList keep ?_ hns' (by simpa using hy') ?_
    · cases z : s.heap.get? D with
      | none => rfl
      | some o => rw [up _ _ z] at hD; cases hD
    · rw [e2]
      refine (rows_filter _ _ hrows).at2 fun b o e hsq => keep b o (not_ns e hsq hn) e

/-- a loop over a range -/
theorem for_rng {env : Env} {x : Str} {px pos : Pos} {iter : Expr} {body : List Stmt} {a : Int} {N : Nat} {Q : Flow → Shared → Prop} (hA : A.handled = none)
    (h : wpAny (model prog w) A (eval iter env) (fun xv s₁ => wpAny (model prog w) A (pyIter xv) (fun it s₂ => ∃ I, it = .ref I ∧ ∃ Inv : Nat → Shared → Prop, Inv 0 s₂ ∧ (∀ i s', Inv i s' → IsRangeIter s'.heap I (a + ((i : Nat) : Int) * 1) ((N : Int) - ((i : Nat) : Int)) 1) ∧
      (∀ i t s' h' tk E', i < N → Inv i s' → IsRangeIter h' I (a + ((i + 1 : Nat) : Int) * 1) ((N : Int) - ((i + 1 : Nat) : Int)) 1 → (∀ b o, b ≠ I → s'.heap.get? b = some o → h'.get? b = some o) →
        wpAny (model prog w) A (storeName env x (.int (a + ((i : Nat) : Int) * 1) t)) (fun _ s₂ => wpAny (model prog w) A (execs body env) (fun f s₃ => match f with
          | .next | .cont => Inv (i + 1) s₃
          | .brk => Q .next s₃
          | .ret v => Q (.ret v) s₃) E' s₂) E' { s' with heap := h', toks := tk }) ∧
      (∀ s' h' tk, Inv N s' → (∀ b o, b ≠ I → s'.heap.get? b = some o → h'.get? b = some o) → Q .next { s' with heap := h', toks := tk })) E s₁) E s)
    (hs : ∀ x, foldedSetIterable iter env x = pure x := by intro _; rfl) :
    wpAny (model prog w) A (exec (.For (.Name x px) iter body [] pos) env) Q E s := by
  refine wpAny_For (wpAny_mono h (fun xv s₁ h₁ => wpAny_mono h₁ (fun it s₂ h₂ => ?_) fun _ _ e => e) fun _ _ e => e) hs
  obtain ⟨I, rfl, Inv, h0, hit, hturn, hdone⟩ := h₂
  refine loop_walks (Walks.range (prog := prog) (w := w) (A := A) hA I a 1 N) Inv (fun i s' hI => hit i s' hI) h0 (fun i v s' h' tk E' hi hI hP hst hk => ?_) (fun s' h' tk hI hk => hdone s' h' tk hI fun b o hb e => hk b o (by simpa using hb) e)
  obtain ⟨t, rfl⟩ := hP
  exact hturn i t s' h' tk E' hi hI hst fun b o hb e => hk b o (by simpa using hb) e
end
end Mine
namespace Mine
theorem iter_range {prog : Program} {w : World} {A : Around} {E : Value → Shared → Prop} {s : Shared} {r : Addr} {a b : Int} {t u v : Tok} {N : Nat} {Q : Value → Shared → Prop} (hr : IsRange s.heap r a b 1 t u v) (hN : b - a = (N : Int)) (ha : 0 ≤ a) (hb : b ≤ 1000) (ha2 : a ≤ 1000)
    (h : ∀ I h', s.heap.objs.size ≤ I → (∀ b o, s.heap.get? b = some o → h'.get? b = some o) → IsRangeIter h' I (a + ((0 : Nat) : Int) * 1) ((N : Int) - ((0 : Nat) : Int)) 1 → Q (.ref I) { s with heap := h' }) :
    wpAny (model prog w) A (pyIter (.ref r)) Q E s := by
  have e : Builtin.Range.rangeSize a b 1 = (N : Int) := by rw [rangeSize_nat, hN]; omega
  refine wpAny_pyIter_range hr ?_ (h _ _ (Nat.le_refl _) (fun b o e => Heap.get?_push_of_some _ e) ?_)
  · simp [Builtin.Range.small, Builtin.Range.rangeFitsLong, e]
    omega
  · rw [e]
    have e1 : a + ((0 : Nat) : Int) * 1 = a := by omega
    have e2 : (N : Int) - ((0 : Nat) : Int) = N := by omega
    unfold IsRangeIter
    rw [e1, e2]
    exact Heap.get?_push_size _ rfl
end Mine
end
theorem Mine.anewLs2 : True := by
  w_top off
  exact trivial
section
open PySem PySem.W PyProof.Rows PySem.Calls
set_option Elab.async false
set_option maxRecDepth 100000
set_option maxHeartbeats 8000000
set_option linter.unusedVariables false
namespace Mine
/-- rows that a covariance is asked of -/
def Good (n : Nat) (ix : List Nat) : Prop := (∀ k ∈ ix, k < n) ∧ 2 ≤ ix.length ∧ (ix.length ≤ n ∨ ∃ i j k, ix = rep4 i j k)
/-- what makes a population's law exact -/
structure HoldM (ms ks : List Int) (n : Nat) (cv : List Nat → Int) : Prop where
  cov : ∀ ix, Good n ix → CovM (ix.map fun k => ms.getD k 0) (ix.map fun k => ks.getD k 0) ix.length (cv ix)
  small : ∀ ix, Good n ix → (cv ix).natAbs ≤ 2 ^ 40
  sums : ∀ size, 2 ≤ size → size < n → sumI (((samples n).filter fun ix => ix.length == size).map cv) = ((samples n).filter fun ix => ix.length == size).length * cv (List.range n)
  pairs : ∀ i j, i < n → j < n → (ms.getD i 0 - ms.getD j 0) * (ks.getD i 0 - ks.getD j 0) = cv [i, j] * 2 * 2 ^ 14
  draws : 2 * (n : Int) * n * (n - 1) * cv (List.range n) = 3 * sumI ((triples n).map cv)

theorem sumA_map {cv : List Nat → Int} {B : Nat} : ∀ (rows : List (List Nat)), (∀ ix ∈ rows, (cv ix).natAbs ≤ B) → sumA (rows.map cv) ≤ rows.length * B
  | [], _ => Nat.zero_le _
  | ix :: rows, h => by
    have ih := sumA_map rows fun y hy => h y (List.mem_cons_of_mem _ hy)
    have h0 := h ix List.mem_cons_self
    show (cv ix).natAbs + sumA (rows.map cv) ≤ (rows.length + 1) * B
    rw [Nat.succ_mul]; omega
theorem good_pair {n i j : Nat} (h2 : 2 ≤ n) (hi : i < n) (hj : j < n) : Good n [i, j] := ⟨fun k hk => by
  simp only [List.mem_cons, List.not_mem_nil, or_false] at hk
  rcases hk with rfl | rfl <;> assumption, Nat.le_refl _, .inl h2⟩
theorem good_all {n : Nat} (h2 : 2 ≤ n) : Good n (List.range n) := ⟨fun k hk => by simpa using hk, by simpa using h2, .inl (by simp)⟩

/-- _law_sum of rows that all are good -/
theorem lsumG {w : World} {p : Program} {loose : List Str} {mean : ExcName → Option Value} {mg mb : Str → Option Value} {dp un : Nat} {gd : Option (List Code)} {cn : Str} {cs : Scope} {L a : Addr} {ccd : Value} {cl : List (Str × Addr)} {outer : List Env} {base : Heap} {s : Shared} {Q E : Value → Shared → Prop}
   (K0 : Below (ktrTop dp un gd cn cs L a ccd cl outer) base (envX cn cs L a ccd cl :: outer) s.heap) (hmb : ∀ b ∈ [57], base.get? b = none ∧ b ∉ frs (envX cn cs L a ccd cl :: outer)) (X : (hd1.heap_39 w.params).In base) (T : Top p loose mean mg mb base)
   (C : CodeHd base 61 57) (hT : Tab s.heap 61 57)
   {x y R : Addr} {vs ws rvs : List Value} {us zs : List Nm} {ms ks : List Int} {n : Nat} {rows : List (List Nat)} {cv : List Nat → Int} (hx : s.heap.IsList x vs.toArray) (hy : s.heap.IsList y ws.toArray) (hR : s.heap.IsList R rvs.toArray)
   (hu : VxAre vs us ms) (hz : VxAre ws zs ks) (hrows : RowsAre s.heap rvs rows) (hn : vs.length = n) (hn2 : ws.length = n) (h6 : n ≤ 6) (M : HoldM ms ks n cv) (hg : ∀ ix ∈ rows, Good n ix) (hne : 0 < rows.length) (hlen : rows.length ≤ 1000)
   (hroom : dp + 9 < recursionLimit) (hun : un + 30 < cLine)
   (ret : ∀ s' r t, Ex r (sumI (rows.map cv)) → (∀ b o, b ≠ 57 → s.heap.get? b = some o → s'.heap.get? b = some o) → Tab s'.heap 61 57 → GBare s.gens s'.gens → s'.drawn = s.drawn → s'.os = s.os → Q (.float r t) s') :
   wpAny (model PySem.Challenge.rw_kp0013_01.row.prog w) (ktrTop dp un gd cn cs L a ccd cl outer) (call (.ref 67) [.ref x, .ref y, .ref R]) Q E s := by
  have hb : sumA (rows.map cv) ≤ 2 ^ 53 := by
    have := sumA_map (cv := cv) (B := 2 ^ 40) rows fun ix hix => M.small ix (hg ix hix)
    have h2 : rows.length * 2 ^ 40 ≤ 1000 * 2 ^ 40 := Nat.mul_le_mul_right _ hlen
    omega
  refine lsum K0 hmb X T C hT (n := n) (res := 0) hx hy hR hu hz hrows (List.length_map _) hb (by omega) (by omega) (fun i ix t hix ht => ?_) hne hroom hun ret
  have hG := hg ix (List.mem_of_getElem? hix)
  rw [List.getElem?_map, hix] at ht
  have e : cv ix = t := Option.some.inj ht
  subst e
  refine ⟨fun k hk => by rw [hn]; exact hG.1 k hk, hG.2.1, ?_, M.cov ix hG⟩
  rcases hG.2.2 with h | ⟨i, j, k, rfl⟩
  · omega
  · exact Nat.le_refl _
end Mine
namespace Mine
theorem sm_rows {ms ks : List Int} {n : Nat} {cv : List Nat → Int} (M : HoldM ms ks n cv) {rows : List (List Nat)} (hg : ∀ ix ∈ rows, Good n ix) (hlen : rows.length ≤ 1000) : Sm (sumI (rows.map cv)) := by
  have h1 := sumI_le (rows.map cv)
  have h2 := sumA_map (cv := cv) (B := 2 ^ 40) rows fun ix hix => M.small ix (hg ix hix)
  have h3 : rows.length * 2 ^ 40 ≤ 1000 * 2 ^ 40 := Nat.mul_le_mul_right _ hlen
  unfold Sm
  omega
end Mine
namespace Mine
theorem vx_float {vs : List Value} {us : List Nm} {ms : List Int} (h : VxAre vs us ms) (hf : ∀ u ∈ us, u.isf = true) {i : Nat} (hi : i < vs.length) : ∃ x t, vs[i]? = some (.float x t) ∧ Ex x (ms.getD i 0) := by
  obtain ⟨k, m, h1, h2, h3, h4⟩ := vx_at h (List.getElem?_eq_getElem hi)
  have hk := hf k (List.mem_of_getElem? h1)
  cases k with
  | i n => cases hk
  | f x =>
    obtain ⟨t, e⟩ := h3
    refine ⟨x, t, by rw [List.getElem?_eq_getElem hi, e], ?_⟩
    rw [List.getD_eq_getElem?_getD, h2]
    exact h4
theorem vx_int {vs : List Value} {us : List Nm} {ms : List Int} (h : VxAre vs us ms) (hf : ∀ u ∈ us, u.isf = false) {i : Nat} (hi : i < vs.length) : ∃ (n : Int) (t : Tok), vs[i]? = some (.int n t) ∧ ms.getD i 0 = n * 2 ^ 14 := by
  obtain ⟨k, m, h1, h2, h3, h4⟩ := vx_at h (List.getElem?_eq_getElem hi)
  have hk := hf k (List.mem_of_getElem? h1)
  cases k with
  | f x => cases hk
  | i n =>
    obtain ⟨t, e⟩ := h3
    refine ⟨n, t, by rw [List.getElem?_eq_getElem hi, e], ?_⟩
    rw [List.getD_eq_getElem?_getD, h2]
    exact h4
end Mine
namespace Mine
theorem pair_facts {ms ks : List Int} {n : Nat} {cv : List Nat → Int} (M : HoldM ms ks n cv) {i j : Nat} (h2 : 2 ≤ n) (hi : i < n) (hj : j < n) {yi yj : Int} (hyi : ks.getD i 0 = yi * 2 ^ 14) (hyj : ks.getD j 0 = yj * 2 ^ 14) :
    Sm (ms.getD i 0 - ms.getD j 0) ∧ Sm ((yi - yj) * 2 ^ 14) ∧ (ms.getD i 0 - ms.getD j 0) * (yi - yj) = cv [i, j] * 2 ∧ Sm (cv [i, j] * 2) ∧ Sm (cv [i, j]) := by
  have hG := good_pair h2 hi hj
  have hC := M.cov _ hG
  have hs := M.small _ hG
  have hp := M.pairs i j hi hj
  have b1 : (ms.getD i 0).natAbs + ((ms.getD j 0).natAbs + 0) ≤ 2 ^ 53 := hC.bm
  have b2 : (ks.getD i 0).natAbs + ((ks.getD j 0).natAbs + 0) ≤ 2 ^ 53 := hC.bk
  have hk : (yi - yj) * 2 ^ 14 = ks.getD i 0 - ks.getD j 0 := by rw [hyi, hyj, Int.sub_mul]
  refine ⟨by unfold Sm; omega, by rw [hk]; unfold Sm; omega, ?_, by unfold Sm; omega, by unfold Sm; omega⟩
  rw [← hk, ← Int.mul_assoc] at hp
  exact Int.eq_of_mul_eq_mul_right (by decide) hp
end Mine
end
theorem Mine.anewHe : True := by
  w_top off
  exact trivial
section
open PySem PySem.W PySem.Calls PyProof.Rows
set_option Elab.async false
set_option maxRecDepth 100000
set_option linter.unusedVariables false
namespace Mine
theorem afterAsg {g h h5 h6 : Heap} {L Cc : Addr} {m m6 : Str → Option Value} {news : List (Addr × Obj)} (F : Fr g L h m) (N : News g L h news) (k5 : ∀ b o, h.get? b = some o → h5.get? b = some o) (nC : h.get? Cc = none) (hn : h6.Ns L m6)
    (k6 : ∀ b o, b ≠ L → b ≠ Cc → h5.get? b = some o → h6.get? b = some o) : Fr g L h6 m6 ∧ News g L h6 news := by
  have ne : ∀ {b o}, h.get? b = some o → b ≠ Cc := fun e q => by rw [q, nC] at e; cases e
  have nl : ∀ {b o}, g.get? b = some o → b ≠ L := fun e q => by
    have := Heap.lt_size e
    rw [q] at this
    exact Nat.lt_irrefl _ (Nat.lt_of_lt_of_le this F.above)
  exact ⟨⟨hn, fun b o e => k6 b o (nl e) (ne (F.keep b o e)) (k5 b o (F.keep b o e)), F.above⟩, fun q hq => ⟨k6 _ _ (N q hq).2.1 (ne (N q hq).1) (k5 _ _ (N q hq).1), (N q hq).2⟩⟩

/-- rows laid into the ledger -/
theorem rows_hold {g h : Heap} {L : Addr} {m : Str → Option Value} {rvs : List Value} (F : Fr g L h m) : ∀ {rvs : List Value} {rows : List (List Nat)}, RowsAre h rvs rows → ∃ ext : List (Addr × Obj), (∀ q ∈ ext, h.get? q.1 = some q.2 ∧ q.1 ≠ L ∧ g.get? q.1 = none ∧ q.2.cls = .type "list" ∧ ∃ items n, q.2.data = .seq items n) ∧
    ∀ h', (∀ q ∈ ext, h'.get? q.1 = some q.2) → (∀ b o, g.get? b = some o → h'.get? b = some o) → RowsAre h' rvs rows := by
  intro rvs
  induction rvs with
  | nil =>
    intro rows x
    have : rows = [] := List.eq_nil_of_length_eq_zero x.1.symm
    subst this
    exact ⟨[], fun q hq => (nomatch hq), fun h' _ _ => ⟨rfl, fun i v hv => by simp at hv⟩⟩
  | cons v rvs ih =>
    intro rows x
    obtain ⟨r, rv, ix, rows', rfl, rfl, hl, hx, x'⟩ := rows_cons x
    obtain ⟨ext, h1, h2⟩ := ih x'
    obtain ⟨o, ho, hc, n, hd⟩ := hl
    cases hg : g.get? r with
    | some o' =>
      have e := F.keep _ _ hg
      rw [ho] at e
      cases e
      exact ⟨ext, h1, fun h' k1 k2 => rowsCons ⟨o, k2 _ _ hg, hc, n, hd⟩ hx (h2 h' k1 k2)⟩
    | none =>
      refine ⟨(r, o) :: ext, fun q hq => ?_, fun h' k1 k2 => rowsCons ⟨o, k1 (r, o) List.mem_cons_self, hc, n, hd⟩ hx (h2 h' (fun q hq => k1 q (List.mem_cons_of_mem _ hq)) k2)⟩
      rcases List.mem_cons.mp hq with rfl | hq
      · exact ⟨ho, not_ns ho ⟨_, _, hd⟩ F.ns, hg, hc, _, _, hd⟩
      · exact h1 q hq
theorem newsApp {g h : Heap} {L : Addr} {l1 l2 : List (Addr × Obj)} (N1 : News g L h l1) (N2 : News g L h l2) : News g L h (l1 ++ l2) := fun q hq => (List.mem_append.mp hq).elim (N1 q) (N2 q)
end Mine
namespace Mine
theorem pin4 {m : Str → Option Value} {k1 k2 k3 k4 : Str} {v1 v2 v3 v4 : Value} (h1 : m k1 = some v1) (h2 : m k2 = some v2) (h3 : m k3 = some v3) (h4 : m k4 = some v4) :
    m = fun y => if y = k1 then some v1 else if y = k2 then some v2 else if y = k3 then some v3 else if y = k4 then some v4 else m y := by
  funext y
  by_cases e1 : y = k1
  · rw [if_pos e1, e1, h1]
  rw [if_neg e1]
  by_cases e2 : y = k2
  · rw [if_pos e2, e2, h2]
  rw [if_neg e2]
  by_cases e3 : y = k3
  · rw [if_pos e3, e3, h3]
  rw [if_neg e3]
  by_cases e4 : y = k4
  · rw [if_pos e4, e4, h4]
  rw [if_neg e4]
theorem news_ext {g h : Heap} {L : Addr} {ext : List (Addr × Obj)} (x : ∀ q ∈ ext, h.get? q.1 = some q.2 ∧ q.1 ≠ L ∧ g.get? q.1 = none ∧ q.2.cls = .type "list" ∧ ∃ items n, q.2.data = .seq items n) : News g L h ext := fun q hq => ⟨(x q hq).1, (x q hq).2.1, (x q hq).2.2.1⟩
end Mine
namespace Mine
/-- the turns of a loop of _law_holds -/
structure SInv (s : Shared) (g : Heap) (L : Addr) (x y Dm : Addr) (W : Value) (base : List (Addr × Obj)) (I : Addr) (lo : Int) (N : Nat) (P : (Str → Option Value) → Prop) (i : Nat) (s' : Shared) : Prop where
  drawn : s'.drawn = s.drawn
  os : s'.os = s.os
  bare : GBare s.gens s'.gens
  fr : ∃ m, Fr g L s'.heap m ∧ m "whole" = some W ∧ m "samples" = some (.ref Dm) ∧ m "xs" = some (.ref x) ∧ m "ys" = some (.ref y) ∧ P m
  news : ∃ ps oS oI, News g L s'.heap ((57, tabObj ps) :: (L + 1 + 1 + 1, oS) :: (I, oI) :: base) ∧ TriplesOk ps.toList ∧ (∃ v, oS.data = .cell v)
  ne : I ≠ 57 ∧ I ≠ L + 1 + 1 + 1 ∧ ∀ q ∈ base, q.1 ≠ I
  it : IsRangeIter s'.heap I (lo + ((i : Nat) : Int) * 1) ((N : Int) - ((i : Nat) : Int)) 1
end Mine

namespace Mine
theorem store_cell {prog : Program} {w : World} {A : Around} {E : Value → Shared → Prop} {s : Shared} {g : Heap} {L a c : Addr} {m : Str → Option Value} {cn : Str} {cs : Scope} {ccd : Value} {cl : List (Str × Addr)} {x : Str} {v : Value} {Q : Unit → Shared → Prop} {o : Obj} {v₀ : Option Value}
    (F : Fr g L s.heap m) (ho : s.heap.get? c = some o) (hd : o.data = .cell v₀) (hcL : c ≠ L) (hcg : g.get? c = none)
    (h : ∀ h' o', Fr g L h' m → (∀ b ob, b ≠ c → s.heap.get? b = some ob → h'.get? b = some ob) → h'.get? c = some o' → o'.data = .cell (some v) → Q () { s with heap := h' })
    (hc : cl.lookup x = some c := by rfl) (hk : cs.kind = .function := by rfl) (hx : (envX cn cs L a ccd cl).kindOf x = some .cell := by rfl) : wpAny (model prog w) A (storeName (envX cn cs L a ccd cl) x v) Q E s := by
  refine wpAny_storeName_cell hk hx hc ⟨o, ho, hd⟩ fun h' hv hs => ?_
  obtain ⟨o', ho', hd'⟩ := hv
  have k : ∀ b ob, b ≠ c → s.heap.get? b = some ob → h'.get? b = some ob := fun b ob hb e => hs.extBut b ob hb e
  exact h h' o' (frBut (P := [c]) F (fun b ob hb e => k b ob (by simpa using hb) e) (by simpa using Ne.symm hcL) (fun b hb => by rw [List.mem_singleton.mp hb]; exact hcg)) k ho' hd'
end Mine
namespace Mine
theorem name_comp_B {M : Model} {A : Around} {E : Value → Shared → Prop} {s : Shared} {K : Frag} {g : Heap} {p : Program} {loose : List Str} {mg mb : Str → Option Value} {x : Str} {v : Value} {cenv : Env} {pos : Pos} {Q : Value → Shared → Prop} (X : K.In g) (T : TopRead p loose mg mb g) (k : ∀ b o, g.get? b = some o → s.heap.get? b = some o)
    (e : nsIn K mainGlobals x = some none) (hv : bootBuiltins x = some v) (hn : x ≠ "__name__") (h : Q v s) (hg : cenv.globals = mainGlobals) (hbi : cenv.builtins = builtinsNs) (hk : cenv.scope.kind = .function) (hx : cenv.kindOf x = some .globalImplicit) (hd : (x == ("__debug__" : Str)) = false) :
    wpAny M A (eval (.Name x pos) cenv) Q E s :=
  Name_function_global hk hx (loadGlobal_builtin (env := cenv) (by rw [hg]; exact T.g.keeps k) (mg_none_of X T.g e) (by rw [hbi]; exact T.b.keeps k) ((T.builtins x hn).trans hv) h) hd
theorem samples_len (n : Nat) : (samples n).length = 2 ^ n := by simp [samples]
theorem samples_row {n : Nat} {ix : List Nat} (h : ix ∈ samples n) : ix.length ≤ n ∧ ∀ k ∈ ix, k < n := by
  obtain ⟨mask, _, rfl⟩ := List.mem_map.mp h
  refine ⟨?_, fun k hk => by simpa using (List.mem_filter.mp hk).1⟩
  have := List.length_filter_le (fun i => mask / 2 ^ i % 2 == 1) (List.range n)
  simpa using this
end Mine
namespace Mine
theorem sample_some : ∀ n, n ≤ 6 → ∀ i, i < n - 2 → 0 < ((samples n).filter fun ix => ix.length == i + 2).length := by
  intro n hn
  match n, hn with
  | 0, _ => intro i hi; omega
  | 1, _ => intro i hi; omega
  | 2, _ => intro i hi; omega
  | 3, _ => intro i hi; (have : i = 0 := by omega); subst this; decide +kernel
  | 4, _ => intro i hi; (have : i = 0 ∨ i = 1 := by omega); rcases this with rfl | rfl <;> decide +kernel
  | 5, _ => intro i hi; (have : i = 0 ∨ i = 1 ∨ i = 2 := by omega); rcases this with rfl | rfl | rfl <;> decide +kernel
  | 6, _ => intro i hi; (have : i = 0 ∨ i = 1 ∨ i = 2 ∨ i = 3 := by omega); rcases this with rfl | rfl | rfl | rfl <;> decide +kernel
/-- the ledger when a local name was bound by a block -/
theorem afterNs {g h h3 : Heap} {L : Addr} {m m3 : Str → Option Value} {news : List (Addr × Obj)} (F : Fr g L h m) (N : News g L h news) (k3 : ∀ b o, b ≠ L → h.get? b = some o → h3.get? b = some o) (hn3 : h3.Ns L m3) : Fr g L h3 m3 ∧ News g L h3 news := by
  have nl : ∀ {b o}, g.get? b = some o → b ≠ L := fun e q => by
    have := Heap.lt_size e
    rw [q] at this
    exact Nat.lt_irrefl _ (Nat.lt_of_lt_of_le this F.above)
  exact ⟨⟨hn3, fun b o e => k3 b o (nl e) (F.keep b o e), F.above⟩, fun q hq => ⟨k3 _ _ (N q hq).2.1 (N q hq).1, (N q hq).2⟩⟩
end Mine

namespace Mine
theorem pin5 {m : Str → Option Value} {k0 k1 k2 k3 k4 : Str} {v0 v1 v2 v3 v4 : Value} (h0 : m k0 = some v0) (h1 : m k1 = some v1) (h2 : m k2 = some v2) (h3 : m k3 = some v3) (h4 : m k4 = some v4) :
    m = fun y => if y = k0 then some v0 else if y = k1 then some v1 else if y = k2 then some v2 else if y = k3 then some v3 else if y = k4 then some v4 else m y := by
  funext y
  by_cases e0 : y = k0
  · rw [if_pos e0, e0, h0]
  rw [if_neg e0]
  exact congrFun (pin4 h1 h2 h3 h4) y
/-- the ledger of a loop's start -/
theorem sinv_start {s s' : Shared} {g h : Heap} {L x y Dm I : Addr} {W : Value} {base : List (Addr × Obj)} {lo : Int} {N : Nat} {P : (Str → Option Value) → Prop} {m : Str → Option Value} {ps : Array Value} {oS : Obj} {vS : Option Value} (hd : s'.drawn = s.drawn) (ho : s'.os = s.os) (hb : GBare s.gens s'.gens)
    (F : Fr g L h m) (Nw : News g L h ((57, tabObj ps) :: (L + 1 + 1 + 1, oS) :: base)) (hI : h.objs.size ≤ I) (k : ∀ b o, h.get? b = some o → s'.heap.get? b = some o) (m1 : m "whole" = some W) (m2 : m "samples" = some (.ref Dm)) (m3 : m "xs" = some (.ref x)) (m4 : m "ys" = some (.ref y)) (mP : P m)
    (htr : TriplesOk ps.toList) (dS : oS.data = .cell vS) (hit : IsRangeIter s'.heap I (lo + ((0 : Nat) : Int) * 1) ((N : Int) - ((0 : Nat) : Int)) 1) : SInv s g L x y Dm W base I lo N P 0 s' := by
  obtain ⟨hIL, hIg⟩ := fr_new F hI
  have out : ∀ q ∈ (57, tabObj ps) :: (L + 1 + 1 + 1, oS) :: base, I ≠ q.1 := fun q hq e => Nat.lt_irrefl _ (Nat.lt_of_lt_of_le (Heap.lt_size (Nw q hq).1) (e ▸ hI))
  refine ⟨hd, ho, hb, ⟨m, frKeep F k, m1, m2, m3, m4, mP⟩, ⟨ps, oS, { cls := .type "range_iterator", dict := none, data := .fields #[rawInt (lo + ((0 : Nat) : Int) * 1), rawInt ((N : Int) - ((0 : Nat) : Int)), rawInt 1], slots := #[] }, ?_, htr, ⟨_, dS⟩⟩, ⟨out _ List.mem_cons_self, out _ (List.mem_cons_of_mem _ List.mem_cons_self), fun q hq => Ne.symm (out q (List.mem_cons_of_mem _ (List.mem_cons_of_mem _ hq)))⟩, hit⟩
  have N1 := newsKeep Nw k
  intro q hq
  rcases List.mem_cons.mp hq with rfl | hq
  · exact N1 _ List.mem_cons_self
  rcases List.mem_cons.mp hq with rfl | hq
  · exact N1 _ (List.mem_cons_of_mem _ List.mem_cons_self)
  rcases List.mem_cons.mp hq with rfl | hq
  · exact ⟨hit, hIL, hIg⟩
  · exact N1 _ (List.mem_cons_of_mem _ (List.mem_cons_of_mem _ hq))
/-- the ledger when the loop's iterator has moved -/
theorem sinv_turn {g h h' : Heap} {L I : Addr} {m : Str → Option Value} {base : List (Addr × Obj)} {ps : Array Value} {oS oI : Obj} {a l : Int} (F : Fr g L h m) (N : News g L h ((57, tabObj ps) :: (L + 1 + 1 + 1, oS) :: (I, oI) :: base)) (hk : ∀ b o, b ≠ I → h.get? b = some o → h'.get? b = some o)
    (ne : I ≠ 57 ∧ I ≠ L + 1 + 1 + 1 ∧ ∀ q ∈ base, q.1 ≠ I) (hit : IsRangeIter h' I a l 1) :
    Fr g L h' m ∧ News g L h' ((57, tabObj ps) :: (L + 1 + 1 + 1, oS) :: (I, { cls := .type "range_iterator", dict := none, data := .fields #[rawInt a, rawInt l, rawInt 1], slots := #[] }) :: base) := by
  obtain ⟨nI1, nI2, nI3⟩ := ne
  obtain ⟨F1, N1⟩ := afterIter (l := (57, tabObj ps) :: (L + 1 + 1 + 1, oS) :: base) F N hk (List.mem_cons_of_mem _ (List.mem_cons_of_mem _ List.mem_cons_self)) hit (by
    intro q hq
    rcases List.mem_cons.mp hq with rfl | hq
    · exact ⟨List.mem_cons_self, Ne.symm nI1⟩
    rcases List.mem_cons.mp hq with rfl | hq
    · exact ⟨List.mem_cons_of_mem _ List.mem_cons_self, Ne.symm nI2⟩
    · exact ⟨List.mem_cons_of_mem _ (List.mem_cons_of_mem _ (List.mem_cons_of_mem _ hq)), nI3 q hq⟩)
  refine ⟨F1, fun q hq => ?_⟩
  rcases List.mem_cons.mp hq with rfl | hq
  · exact N1 _ (List.mem_cons_of_mem _ List.mem_cons_self)
  rcases List.mem_cons.mp hq with rfl | hq
  · exact N1 _ (List.mem_cons_of_mem _ (List.mem_cons_of_mem _ List.mem_cons_self))
  rcases List.mem_cons.mp hq with rfl | hq
  · exact N1 _ List.mem_cons_self
  · exact N1 _ (List.mem_cons_of_mem _ (List.mem_cons_of_mem _ (List.mem_cons_of_mem _ hq)))
/-- the ledger behind the loop -/
theorem sinv_done {g h h' : Heap} {L I : Addr} {m : Str → Option Value} {base : List (Addr × Obj)} {ps : Array Value} {oS oI : Obj} (F : Fr g L h m) (N : News g L h ((57, tabObj ps) :: (L + 1 + 1 + 1, oS) :: (I, oI) :: base)) (hk : ∀ b o, b ≠ I → h.get? b = some o → h'.get? b = some o)
    (ne : I ≠ 57 ∧ I ≠ L + 1 + 1 + 1 ∧ ∀ q ∈ base, q.1 ≠ I) : Fr g L h' m ∧ News g L h' ((57, tabObj ps) :: (L + 1 + 1 + 1, oS) :: base) := by
  obtain ⟨nI1, nI2, nI3⟩ := ne
  have nI := N (I, oI) (List.mem_cons_of_mem _ (List.mem_cons_of_mem _ List.mem_cons_self))
  refine ⟨frBut (P := [I]) F (fun b o hb e => hk b o (by simpa using hb) e) (by simpa using Ne.symm nI.2.1) (fun b hb => by rw [List.mem_singleton.mp hb]; exact nI.2.2), fun q hq => ?_⟩
  rcases List.mem_cons.mp hq with rfl | hq
  · have n := N _ List.mem_cons_self; exact ⟨hk _ _ (Ne.symm nI1) n.1, n.2⟩
  rcases List.mem_cons.mp hq with rfl | hq
  · have n := N _ (List.mem_cons_of_mem _ List.mem_cons_self); exact ⟨hk _ _ (Ne.symm nI2) n.1, n.2⟩
  · have n := N q (List.mem_cons_of_mem _ (List.mem_cons_of_mem _ (List.mem_cons_of_mem _ hq))); exact ⟨hk _ _ (nI3 q hq) n.1, n.2⟩
abbrev rgIt (a l : Int) : Obj := { cls := .type "range_iterator", dict := none, data := .fields #[rawInt a, rawInt l, rawInt 1], slots := #[] }
end Mine
namespace Mine
theorem range_in {prog : Program} {w : World} {A : Around} {E : Value → Shared → Prop} {t : Shared} {K : Frag} {g : Heap} {p : Program} {loose : List Str} {mg mb : Str → Option Value} {rg nm : Str} {cenv : Env} {p1 p2 p3 : Pos} {Q : Value → Shared → Prop} {c : Addr} {o : Obj} {n : Nat} {tn : Tok}
    (X : K.In g) (T : TopRead p loose mg mb g) (k : ∀ b o, g.get? b = some o → t.heap.get? b = some o) (e : nsIn K mainGlobals rg = some none) (hv : bootBuiltins rg = some (.type "range")) (hn : rg ≠ "__name__") (hn6 : n ≤ 6)
    (ho : t.heap.get? c = some o) (hd : o.data = .cell (some (.int (n : Nat) tn)))
    (h : ∀ J h' tk, t.heap.objs.size ≤ J → (∀ b o, t.heap.get? b = some o → h'.get? b = some o) → IsRangeIter h' J (0 + ((0 : Nat) : Int) * 1) ((n : Int) - ((0 : Nat) : Int)) 1 → Q (.ref J) { t with heap := h', toks := tk })
    (hg : cenv.globals = mainGlobals) (hbi : cenv.builtins = builtinsNs) (hk : cenv.scope.kind = .function) (hx : cenv.kindOf rg = some .globalImplicit) (hdb : (rg == ("__debug__" : Str)) = false)
    (hc : cenv.cells.lookup nm = some c) (hkn : cenv.kindOf nm = some .cell) (hdb2 : (nm == ("__debug__" : Str)) = false)
    (hcall : eval (.Call (.Name rg p1) [.Name nm p2] [] p3) cenv = (do callWith p3 (← eval (.Name rg p1) cenv) [] (backTo p3 (starEach [.Name nm p2] cenv)) (backToKw p3 (keywordEach [] cenv)))) :
    wpAny (model prog w) A (eval (.Call (.Name rg p1) [.Name nm p2] [] p3) cenv) (fun x s₃ => wpAny (model prog w) A (pyIter x) Q E s₃) E t := by
  refine Call_ (name_comp_B X T k e hv hn (callWith_type1 (spliced_more (wpAny_Name (wpAny_loadName_cell hk hkn hc ⟨o, ho, hd⟩ (spliced_none (call_range_1 ?_))) hdb2))) hg hbi hk hx hdb) hcall
  refine iter_range (N := n) (IsRange.new _ _ _ _ _ _ _) (by omega) (by decide) (by omega) (by decide) ?_
  intro J h' hJ hk' hI
  refine h J h' _ ?_ (fun b o e => hk' b o (Heap.get?_push_of_some _ e)) hI
  have hJ2 : (t.heap.push { cls := .type "range", data := .fields #[.int 0 t.toks, .int (n : Nat) tn, .int 1 (t.toks + 1)] }).objs.size ≤ J := hJ
  rw [Heap.size_push] at hJ2
  exact Nat.le_trans (Nat.le_succ _) hJ2
theorem triples_good {n : Nat} : ∀ ix ∈ triples n, Good n ix := by
  intro ix hix
  obtain ⟨i, hi, h1⟩ := List.mem_flatMap.mp hix
  obtain ⟨j, hj, h2⟩ := List.mem_flatMap.mp h1
  obtain ⟨k, hk, rfl⟩ := List.mem_map.mp h2
  have hi := List.mem_range.mp hi
  have hj := List.mem_range.mp hj
  have hk := List.mem_range.mp hk
  refine ⟨fun q hq => ?_, by show 2 ≤ 16; decide, .inr ⟨i, j, k, rfl⟩⟩
  unfold rep4 at hq
  simp only [List.mem_cons, List.not_mem_nil, or_false] at hq
  omega
theorem triples_len (n : Nat) : (triples n).length = n * (n * n) := by
  have l2 : ∀ i, (rows1 n i).length = n * n := fun i => by
    have : ∀ p : Nat, ((List.range p).flatMap fun j => rows2 n i j).length = p * n := fun p => by
      induction p with
      | zero => simp
      | succ p ih => rw [List.range_succ, List.flatMap_append, List.length_append, ih]; simp [rows2, Nat.succ_mul]
    exact this n
  have l1 : ∀ p : Nat, ((List.range p).flatMap fun i => rows1 n i).length = p * (n * n) := fun p => by
    induction p with
    | zero => simp
    | succ p ih => rw [List.range_succ, List.flatMap_append, List.length_append, ih]; simp [l2, Nat.succ_mul]
  exact l1 n
end Mine
namespace Mine
theorem draws_facts {ms ks : List Int} {n : Nat} {cv : List Nat → Int} (M : HoldM ms ks n cv) (h2 : 2 ≤ n) (h6 : n ≤ 6) :
    Sm ((2 * (n : Int) * n * (n - 1)) * 2 ^ 14) ∧ Sm (2 * (n : Int) * n * (n - 1) * cv (List.range n)) ∧ 2 * (n : Int) * n * (n - 1) * cv (List.range n) = sumI ((triples n).map cv) * 3 ∧ Sm (sumI ((triples n).map cv)) := by
  have h1 := sumI_le ((triples n).map cv)
  have hb := sumA_map (cv := cv) (B := 2 ^ 40) (triples n) fun ix hix => M.small ix (triples_good ix hix)
  have hnnn : n * (n * n) ≤ 6 * (6 * 6) := Nat.mul_le_mul h6 (Nat.mul_le_mul h6 h6)
  rw [triples_len] at hb
  have h3 : n * (n * n) * 2 ^ 40 ≤ 216 * 2 ^ 40 := Nat.mul_le_mul_right _ hnnn
  have hd := M.draws
  refine ⟨?_, by rw [hd]; unfold Sm; omega, by rw [hd, Int.mul_comm], by unfold Sm; omega⟩
  have : n = 2 ∨ n = 3 ∨ n = 4 ∨ n = 5 ∨ n = 6 := by omega
  rcases this with rfl | rfl | rfl | rfl | rfl <;> (unfold Sm; decide)
end Mine
end
theorem Mine.anewLholds : True := by
  w_top off
  exact trivial
section
open PySem PySem.W PyProof.Rows PySem.Calls
set_option Elab.async false
set_option maxRecDepth 100000
set_option maxHeartbeats 8000000

set_option linter.unusedVariables false
namespace Mine

theorem ixs_of {vs : List Value} {k : Nat} (h : IntsAre vs (rangeKs 0 k)) : IxAre vs (List.range k) := by
  have hl : vs.length = k := by rw [IntsAre.length h, rangeKs_length]
  refine ⟨by simpa using hl, fun i v hv => ?_⟩
  have at_ : ∀ {vs : List Value} {ns : List Int}, IntsAre vs ns → ∀ (i : Nat) v, vs[i]? = some v → ∃ a t, ns[i]? = some a ∧ v = .int a t := by
    intro vs ns h
    induction h with
    | nil => intro i v hv; simp at hv
    | @cons n t vs ns _ ih =>
      intro i v hv
      cases i with
      | zero => simp at hv; exact ⟨n, t, rfl, hv.symm⟩
      | succ i => simp at hv; exact ih i v hv
  obtain ⟨a, t, ha, rfl⟩ := at_ h i v hv
  unfold rangeKs at ha
  rw [List.getElem?_map] at ha
  cases hr : (List.range k)[i]? with
  | none => rw [hr] at ha; cases ha
  | some q =>
    rw [hr] at ha
    refine ⟨q, t, hr ▸ rfl, ?_⟩
    have e : (0 : Int) + (q : Int) = a := Option.some.inj ha
    rw [← e, Int.zero_add]

theorem lholds {w : World} {p : Program} {loose : List Str} {mean : ExcName → Option Value} {mg mb : Str → Option Value} {dp un : Nat} {gd : Option (List Code)} {cn : Str} {cs : Scope} {L a : Addr} {ccd : Value} {cl : List (Str × Addr)} {outer : List Env} {base : Heap} {s : Shared} {Q E : Value → Shared → Prop}
   (K0 : Below (ktrTop dp un gd cn cs L a ccd cl outer) base (envX cn cs L a ccd cl :: outer) s.heap) (hmb : ∀ b ∈ [57], base.get? b = none ∧ b ∉ frs (envX cn cs L a ccd cl :: outer)) (X : (hd1.heap_39 w.params).In base) (T : Top p loose mean mg mb base)
   (C : CodeHd base 61 57) (hT : Tab s.heap 61 57)
   {x y : Addr} {vs ws : List Value} {us zs : List Nm} {ms ks : List Int} {n : Nat} {cv : List Nat → Int} (hx : s.heap.IsList x vs.toArray) (hy : s.heap.IsList y ws.toArray)
   (hu : VxAre vs us ms) (hz : VxAre ws zs ks) (hn : vs.length = n) (hn2 : ws.length = n) (h2 : 2 ≤ n) (h6 : n ≤ 6) (huf : ∀ u ∈ us, u.isf = true) (hzi : ∀ u ∈ zs, u.isf = false) (M : HoldM ms ks n cv)
   (hroom : dp + 10 < recursionLimit) (hun : un + 40 < cLine)
   (ret : ∀ s', (∀ b o, b ≠ 57 → s.heap.get? b = some o → s'.heap.get? b = some o) → Tab s'.heap 61 57 → GBare s.gens s'.gens → s'.drawn = s.drawn → s'.os = s.os → Q (.bool true) s') :
   wpAny (model PySem.Challenge.rw_kp0013_01.row.prog w) (ktrTop dp un gd cn cs L a ccd cl outer) (call (.ref 72) [.ref x, .ref y]) Q E s := by
  revert X; k_fill; intro X
  refine wpAny_call ?_
  refine' enter_cells2 (binds := [("xs", .ref x), ("ys", .ref y)]) K0 hmb X T ?ho ?hcd ?hroom ?hbind ?hkind ?hnd ?_ ?c1 ?c2 ?c3
  case ho => k_is
  case hcd => k_is
  case hroom => ktr_room
  case hbind => exact BindsTo.of_eq rfl
  case hkind => exact rfl
  case hnd => decide +kernel
  case c1 => exact rfl
  case c2 => exact rfl
  case c3 => exact rfl
  intro g L' h₁ tk cells F N Y B Xg Tg Kp hmg hkeep hL'
  k_cells Y
  rename_i oS oA0 oN0 dS dA0 dN0
  (try simp only [List.cons_append, List.nil_append] at N)
  (try dsimp only)
  obtain ⟨ps, hTc, hTt⟩ := hT
  have htr : TriplesOk ps.toList := triples_of hTc
  have h57 : s.heap.get? 57 = some (tabObj ps) := hTt.2
  have hL57 : (57 : Nat) ≠ L' := fun q => by
    have := Heap.lt_size h57
    rw [q, hL'] at this
    exact Nat.lt_irrefl _ this
  have hg57 : g.get? 57 = none := hmg 57 (by simp)
  replace N := newsAdd N (show h₁.get? 57 = some (tabObj ps) from hkeep _ _ h57) hL57 hg57
  have ne57 : ∀ {z : Addr} {o : Obj}, s.heap.get? z = some o → o.cls ≠ .none → z ≠ 57 := fun ho hc q => by
    rw [q, h57] at ho; cases ho; exact hc rfl
  have lst57 : ∀ {z : Addr} {l : Array Value}, s.heap.IsList z l → g.IsList z l := fun hl => by
    obtain ⟨o, ho, hc, r⟩ := hl
    exact ⟨o, Kp _ _ (by simpa using ne57 ho (by rw [hc]; nofun)) ho, hc, r⟩
  replace hx := lst57 hx
  replace hy := lst57 hy
  have hC : CodeHd g 61 57 := C.keeps B.stays
  have hid := And.intro X (And.intro T C)
  clear hkeep hL' K0 X T hTc hTt C
  (repeat' ((fail_if_success (with_reducible first | show wpAny _ _ (call (Value.ref _) _) _ _ _ | show wpAny _ _ (eval (Expr.ListComp _ _ _ _) _) _ _ _ | show wpAny _ _ (pyIter _) _ _ _ | show wpAny _ _ (exec (Stmt.Assign _ (Expr.ListComp _ _ _ _) _) _) _ _ _ | show wpAny _ _ (exec (Stmt.For _ _ _ _ _) _) _ _ _)); first | (exfalso; omega) | (k_unfold; (try dsimp only)) | walk1 | (dsimp only; walk1) | (leave1; walk_say "STEP leave1"; try dsimp only)))
  refine call_len_list (hx.at fun _ e => Fr.keep (by assumption) _ _ e) (by simp; omega) ?_
  simp only [List.size_toArray, hn]
  (repeat' ((fail_if_success (with_reducible first | show wpAny _ _ (call (Value.ref _) _) _ _ _ | show wpAny _ _ (eval (Expr.ListComp _ _ _ _) _) _ _ _ | show wpAny _ _ (pyIter _) _ _ _ | show wpAny _ _ (exec (Stmt.Assign _ (Expr.ListComp _ _ _ _) _) _) _ _ _ | show wpAny _ _ (exec (Stmt.For _ _ _ _ _) _) _ _ _)); first | (exfalso; omega) | (k_unfold; (try dsimp only)) | walk1 | (dsimp only; walk1) | (leave1; walk_say "STEP leave1"; try dsimp only)))
  rename Fr _ _ _ _ => F
  rename News _ _ _ _ => N
  rename IntsAre _ _ => hIv
  rename (Obj.data _ = Data.cell (some (Value.ref _))) => dA
  rename (Obj.data _ = Data.cell (some (Value.int _ _))) => dN
  have hixA := ixs_of hIv
  rw [show ((n : Int) - 0).toNat = n by omega] at hixA
  rename_i h40 oN tkN h30 tkB t1 u1 v1 rgX aX D1 vsA cA hA2 tkA l1a hA1 oA lR hR1 l1b
  clear dA0 dN0 rgX aX l1a l1b
  obtain ⟨X, T, C⟩ := hid
  have nT := (N (57, tabObj ps) (by simp)).1
  have nR := (N (lR, W.listOf #[Value.ref D1] 0) (by simp)).1
  have nD := (N (D1, W.listOf vsA.toArray cA) (by simp)).1
  have hmb' : ∀ (sc : Scope), ∀ b ∈ [57], base.get? b = none ∧ b ∉ frs (envOfC "_law_holds" sc L' 72 (.ref 71) :: envX cn cs L a ccd cl :: outer) := by
    intro sc b hb
    rw [List.mem_singleton.mp hb]
    refine ⟨(hmb 57 (by simp)).1, fun q => ?_⟩
    rcases List.mem_cons.mp q with q | q
    · exact hL57 q
    · exact (hmb 57 (by simp)).2 q
  refine lsumG (rvs := [.ref D1]) (rows := [List.range n]) (pushX B F rfl rfl) (hmb' _) X T C (tabOf hC F nT htr) (hx.at fun _ e => F.keep _ _ e) (hy.at fun _ e => F.keep _ _ e) ⟨_, nR, rfl, _, rfl⟩ hu hz ?rows hn hn2 h6 M ?good (by simp) (by simp) ?room ?un ?ret
  case rows => exact rowsCons ⟨_, nD, rfl, _, rfl⟩ hixA ⟨rfl, fun i v hv => by simp at hv⟩
  case good => intro ix hix; rw [List.mem_singleton.mp hix]; exact good_all h2
  case room => show dp + 1 + 9 < recursionLimit; omega
  case un => show un + 3 + 30 < cLine; omega
  case ret =>
    intro s9 rW tW hrW k9 hT9 gb9 dr9 os9
    obtain ⟨h9, g9, d9, tk9, o9⟩ := s9
    dsimp only at k9 hT9 gb9 dr9 os9
    subst dr9 os9
    obtain ⟨ps9, hT9c, hT9t⟩ := hT9
    have htr9 := triples_of hT9c
    obtain ⟨F9, N9⟩ := after57 (l := [(L' + 1 + 1 + 1, oS), (L' + 1 + 1, oA), (L' + 1, oN), (D1, W.listOf vsA.toArray cA)]) F N k9 nT hT9t.2 hL57 hg57 (by
      intro q hq
      simp only [List.mem_cons, List.not_mem_nil, or_false] at hq
      rcases hq with rfl | rfl | rfl | rfl
      · exact ⟨by simp, by rw [dS]; exact .inl nofun⟩
      · exact ⟨by simp, by rw [dA]; exact .inl nofun⟩
      · exact ⟨by simp, by rw [dN]; exact .inl nofun⟩
      · exact ⟨by simp, .inr nofun⟩)
    have hW : Ex rW (cv (List.range n)) := by
      have e : sumI ([List.range n].map cv) = cv (List.range n) := by simp [sumI]
      rwa [e] at hrW
    have hid := And.intro X (And.intro T C)
    clear X T C N F nR nD nT hT9c hT9t k9
    (repeat' ((fail_if_success (with_reducible first | show wpAny _ _ (call (Value.ref _) _) _ _ _ | show wpAny _ _ (eval (Expr.ListComp _ _ _ _) _) _ _ _ | show wpAny _ _ (pyIter _) _ _ _ | show wpAny _ _ (exec (Stmt.Assign _ (Expr.ListComp _ _ _ _) _) _) _ _ _ | show wpAny _ _ (exec (Stmt.For _ _ _ _ _) _) _ _ _)); first | (exfalso; omega) | (k_unfold; (try dsimp only)) | walk1 | (dsimp only; walk1) | (leave1; walk_say "STEP leave1"; try dsimp only)))
    rename Fr _ _ _ _ => F
    rename News _ _ _ _ => N
    refine exec_assign_comp (cl := [("all_of_them", L' + 1 + 1)]) rfl (fun _ => rfl) (by rfl) rfl (by decide) rfl rfl ?_
    (repeat' ((fail_if_success (with_reducible first | show wpAny _ _ (call (Value.ref _) _) _ _ _ | show wpAny _ _ (eval (Expr.ListComp _ _ _ _) _) _ _ _ | show wpAny _ _ (pyIter _) _ _ _ | show wpAny _ _ (exec (Stmt.Assign _ (Expr.ListComp _ _ _ _) _) _) _ _ _ | show wpAny _ _ (exec (Stmt.For _ _ _ _ _) _) _ _ _)); first | (exfalso; omega) | (k_unfold; (try dsimp only)) | walk1 | (dsimp only; walk1) | (leave1; walk_say "STEP leave1"; try dsimp only)))
    rename Fr _ _ _ _ => F
    rename News _ _ _ _ => N
    rename IsRange _ _ _ _ _ _ _ _ => rgX
    refine iter_range (N := 2 ^ n) rgX (by rw [Int.toNat_natCast, Int.sub_zero, pow_cast]) (by decide) (by rw [Int.toNat_natCast, ← pow_cast]; have := Nat.pow_le_pow_right (n := 2) (by decide) h6; omega) (by decide) ?_
    intro I h5 hI5 k5 hIr
    have nA := N (L' + 1 + 1, oA) (by simp)
    have nD := N (D1, W.listOf vsA.toArray cA) (by simp)
    refine masks_core (z0 := ".0") (mk := "mask") (al := "all_of_them") (clo := [("all_of_them", L' + 1 + 1)]) (ca := L' + 1 + 1) (r := D1) (rv := vsA) (n := n) (oA := oA) rfl hixA h6 hIr (k5 _ _ nA.1) dA ⟨_, k5 _ _ nD.1, rfl, _, rfl⟩ ?_ ?_ ?hRR rfl rfl rfl (by decide) rfl rfl (fun _ _ => rfl) (fun _ _ => rfl) (by decide) rfl (by decide) rfl (by decide) (by decide) (by decide) (fun _ _ => rfl)
    · exact fun q => Nat.lt_irrefl _ (Nat.lt_of_lt_of_le (Heap.lt_size nA.1) (q ▸ hI5))
    · exact fun q => Nat.lt_irrefl _ (Nat.lt_of_lt_of_le (Heap.lt_size nD.1) (q ▸ hI5))
    case hRR =>
      intro Dm Cm h7 tk7 rvs m7 k7 nDm nCm hDC hCm lDm hRows
      have kAll : ∀ b o, _ → h7.get? b = some o := fun b o e => k7 b o (fun q => Nat.lt_irrefl _ (Nat.lt_of_lt_of_le (Heap.lt_size e) (q ▸ hI5))) (k5 b o e)
      have F7 := frKeep F kAll
      have CL : Cm ≠ L' := fun q => by
        obtain ⟨oL, _, _, hoL, _⟩ := F.ns
        have := k5 _ _ hoL
        rw [← q, nCm] at this; cases this
      have DL : Dm ≠ L' := fun q => by
        obtain ⟨oL, _, _, hoL, _⟩ := F.ns
        have := k5 _ _ hoL
        rw [← q, nDm] at this; cases this
      refine ⟨m7, _, hCm, F7.ns, CL, fun h8 hn8 k8 => ?_⟩
      obtain ⟨F8, N8⟩ := afterAsg F N kAll (by
        cases z : Heap.get? _ Cm with
        | none => rfl
        | some o => have := k5 _ _ z; rw [nCm] at this; cases this) hn8 k8
      have rows8 : RowsAre h8 rvs (samples n) := hRows.at2 fun b o e hsq => k8 b o (not_ns e hsq F7.ns) (not_ns e hsq hCm) e
      obtain ⟨ext, ext1, ext2⟩ := rows_hold (rvs := rvs) F8 rows8
      obtain ⟨oDm, hoDm, hcDm, cDm, hdDm⟩ := lDm.at (h' := h8) fun o e => k8 _ _ DL hDC e
      have gDm : g.get? Dm = none := by
        cases z : g.get? Dm with
        | none => rfl
        | some o => have := k5 _ _ (F.keep _ _ z); rw [nDm] at this; cases this
      have NN : News g L' h8 ((57, tabObj ps9) :: (L' + 1 + 1 + 1, oS) :: (L' + 1 + 1, oA) :: (L' + 1, oN) :: (D1, W.listOf vsA.toArray cA) :: (Dm, oDm) :: ext) := by
        intro q hq
        rcases List.mem_cons.mp hq with rfl | hq
        · exact N8 _ (by simp)
        rcases List.mem_cons.mp hq with rfl | hq
        · exact N8 _ (by simp)
        rcases List.mem_cons.mp hq with rfl | hq
        · exact N8 _ (by simp)
        rcases List.mem_cons.mp hq with rfl | hq
        · exact N8 _ (by simp)
        rcases List.mem_cons.mp hq with rfl | hq
        · exact N8 _ (by simp)
        rcases List.mem_cons.mp hq with rfl | hq
        · exact ⟨hoDm, DL, gDm⟩
        · exact news_ext ext1 q hq
      have ext3 : ∀ q ∈ ext, q.2.cls = .type "list" := fun q hq => (ext1 q hq).2.2.2.1
      have ext4 : ∀ q ∈ ext, ∃ items n, q.2.data = .seq items n := fun q hq => (ext1 q hq).2.2.2.2
      clear F N F7 hn8 k8 N8 rows8 ext1 hoDm hRows lDm k7 kAll nA nD k5 hIr
      dsimp only
      (repeat' ((fail_if_success (with_reducible first | show wpAny _ _ (call (Value.ref _) _) _ _ _ | show wpAny _ _ (eval (Expr.ListComp _ _ _ _) _) _ _ _ | show wpAny _ _ (pyIter _) _ _ _ | show wpAny _ _ (exec (Stmt.Assign _ (Expr.ListComp _ _ _ _) _) _) _ _ _ | show wpAny _ _ (exec (Stmt.For _ _ _ _ _) _) _ _ _)); first | (exfalso; omega) | (k_unfold; (try dsimp only)) | walk1 | (dsimp only; walk1) | (leave1; walk_say "STEP leave1"; try dsimp only)))
      generalize hbase : ((L' + 1 + 1, oA) :: (L' + 1, oN) :: (D1, W.listOf vsA.toArray cA) :: (Dm, oDm) :: ext : List (Addr × Obj)) = base0 at NN
      have b57 : ∀ (ps : Array Value), ∀ q ∈ base0, q.2.data ≠ .fields ps ∨ q.2.cls ≠ .none := by
        intro ps q hq
        rw [← hbase] at hq
        rcases List.mem_cons.mp hq with rfl | hq
        · rw [dA]; exact .inl nofun
        rcases List.mem_cons.mp hq with rfl | hq
        · rw [dN]; exact .inl nofun
        rcases List.mem_cons.mp hq with rfl | hq
        · exact .inr nofun
        rcases List.mem_cons.mp hq with rfl | hq
        · rw [hcDm]; exact .inr nofun
        · rw [ext3 q hq]; exact .inr nofun
      have bS : ∀ q ∈ base0, q.1 ≠ L' + 1 + 1 + 1 := by
        have nS := (NN (L' + 1 + 1 + 1, oS) (List.mem_cons_of_mem _ List.mem_cons_self)).1
        have key : ∀ q ∈ base0, (∀ v, q.2.data ≠ .cell v) → q.1 ≠ L' + 1 + 1 + 1 := fun q hq hd e => by
          have n := (NN q (List.mem_cons_of_mem _ (List.mem_cons_of_mem _ hq))).1
          rw [e, nS] at n
          have e2 := Option.some.inj n
          rw [← e2] at hd
          exact hd _ dS
        intro q hq
        have hq0 := hq
        rw [← hbase] at hq
        rcases List.mem_cons.mp hq with rfl | hq
        · exact Nat.ne_of_lt (Nat.lt_succ_self _)
        rcases List.mem_cons.mp hq with rfl | hq
        · exact Nat.ne_of_lt (Nat.lt_succ_of_lt (Nat.lt_succ_self _))
        rcases List.mem_cons.mp hq with rfl | hq
        · exact key _ hq0 nofun
        rcases List.mem_cons.mp hq with rfl | hq
        · exact key _ hq0 (by rw [hdDm]; nofun)
        · obtain ⟨its, k, hd⟩ := ext4 q hq
          exact key _ hq0 (by rw [hd]; nofun)
      refine for_rng (a := 2) (N := n - 2) rfl ?_
      rw [← hbase] at NN
      (repeat' ((fail_if_success (with_reducible first | show wpAny _ _ (call (Value.ref _) _) _ _ _ | show wpAny _ _ (eval (Expr.ListComp _ _ _ _) _) _ _ _ | show wpAny _ _ (pyIter _) _ _ _ | show wpAny _ _ (exec (Stmt.Assign _ (Expr.ListComp _ _ _ _) _) _) _ _ _ | show wpAny _ _ (exec (Stmt.For _ _ _ _ _) _) _ _ _)); first | (exfalso; omega) | (k_unfold; (try dsimp only)) | walk1 | (dsimp only; walk1) | (leave1; walk_say "STEP leave1"; try dsimp only)))
      rename Fr _ _ _ _ => F
      rename News _ _ _ _ => N
      rename IsRange _ _ _ _ _ _ _ _ => rgX
      refine iter_range (N := n - 2) rgX (by omega) (by decide) (by omega) (by decide) ?_
      intro I hh1 hI1 kk1 hIr
      refine ⟨I, rfl, SInv s g L' x y Dm (.float rW tW) base0 I 2 (n - 2) (fun _ => True), ?start, fun i s' h => h.it, ?turn, ?done⟩
      case start =>
        exact sinv_start rfl rfl gb9 F (by rw [← hbase]; exact N) hI1 kk1 rfl rfl rfl rfl trivial htr9 dS hIr
      case turn =>
        clear F N kk1 hIr hI1
        intro i tt s' h' tk' E' hi hInv hit' hk'
        obtain ⟨dr, os, ba, ⟨m, F, m1, m2, m3, m4, _⟩, ⟨ps, oS', oI, N, htr, ⟨vS, dS'⟩⟩, ⟨nI1, nI2, nI3⟩, hit⟩ := hInv
        obtain ⟨s'h, s'g, s'd, s't, s'o⟩ := s'
        dsimp only at *
        subst dr os
        obtain ⟨F1, N1⟩ := afterIter (l := (57, tabObj ps) :: (L' + 1 + 1 + 1, oS') :: base0) F N hk' (List.mem_cons_of_mem _ (List.mem_cons_of_mem _ List.mem_cons_self)) hit' (by
          intro q hq
          rcases List.mem_cons.mp hq with rfl | hq
          · exact ⟨List.mem_cons_self, Ne.symm nI1⟩
          rcases List.mem_cons.mp hq with rfl | hq
          · exact ⟨List.mem_cons_of_mem _ List.mem_cons_self, Ne.symm nI2⟩
          · exact ⟨List.mem_cons_of_mem _ (List.mem_cons_of_mem _ (List.mem_cons_of_mem _ hq)), nI3 q hq⟩)
        rw [pin4 m1 m2 m3 m4] at F1
        rw [← hbase] at N1
        clear F N hk' hit
        have nS' : h'.get? (L' + 1 + 1 + 1) = some oS' ∧ L' + 1 + 1 + 1 ≠ L' ∧ g.get? (L' + 1 + 1 + 1) = none := N1 _ (List.mem_cons_of_mem _ (List.mem_cons_of_mem _ List.mem_cons_self))
        have n57 : h'.get? 57 = some (tabObj ps) := (N1 _ (List.mem_cons_of_mem _ List.mem_cons_self)).1
        refine store_cell (c := L' + 1 + 1 + 1) F1 nS'.1 dS' nS'.2.1 nS'.2.2 fun h2' oS2 F2 kS hoS2 dS2 => ?_
        obtain ⟨_, N2⟩ := afterIter (I := L' + 1 + 1 + 1) (oI := oS') (l := (57, tabObj ps) :: (I, { cls := .type "range_iterator", dict := none, data := .fields #[rawInt (2 + ((i + 1 : Nat) : Int) * 1), rawInt (((n - 2 : Nat) : Int) - ((i + 1 : Nat) : Int)), rawInt 1], slots := #[] }) :: base0) F1 N1 kS (List.mem_cons_of_mem _ (List.mem_cons_of_mem _ List.mem_cons_self)) hoS2 (by
          intro q hq
          rcases List.mem_cons.mp hq with rfl | hq
          · exact ⟨List.mem_cons_of_mem _ List.mem_cons_self, fun q => cell_ne nS'.1 n57 dS' q.symm⟩
          rcases List.mem_cons.mp hq with rfl | hq
          · exact ⟨List.mem_cons_self, nI2⟩
          · refine ⟨?_, bS q hq⟩
            rw [hbase]
            exact List.mem_cons_of_mem _ (List.mem_cons_of_mem _ (List.mem_cons_of_mem _ hq)))
        rw [← hbase] at N2
        clear F1 N1
        (repeat' ((fail_if_success (with_reducible first | show wpAny _ _ (call (Value.ref _) _) _ _ _ | show wpAny _ _ (eval (Expr.ListComp _ _ _ _) _) _ _ _ | show wpAny _ _ (pyIter _) _ _ _ | show wpAny _ _ (exec (Stmt.Assign _ (Expr.ListComp _ _ _ _) _) _) _ _ _ | show wpAny _ _ (exec (Stmt.For _ _ _ _ _) _) _ _ _)); first | (exfalso; omega) | (k_unfold; (try dsimp only)) | walk1 | (dsimp only; walk1) | (leave1; walk_say "STEP leave1"; try dsimp only)))
        have hv : (2 + (i : Int) * 1) = ((i + 2 : Nat) : Int) := by omega
        rw [hv] at dS2
        have nDm := N2 (Dm, oDm) (by simp)
        refine asg_size (cl := [("size", L' + 1 + 1 + 1)]) (c := L' + 1 + 1 + 1) (r := Dm) (rvs := rvs) (rows := samples n) (size := i + 2) (t := tt) (o := oS2) rfl (fun Q' h => nameX_L F2 (by rfl) h) ⟨oDm, nDm.1, hcDm, _, hdDm⟩
          (ext2 h2' (fun q hq => (N2 q (by simp [hq])).1) F2.keep) (by rw [samples_len]; have := Nat.pow_le_pow_right (n := 2) (by decide) h6; omega) (fun ix hix => by have := (samples_row hix).1; omega) hoS2 dS2 ?ln F2.ns ?h rfl rfl rfl rfl (by rfl) (by rfl) (by decide) rfl (by decide) rfl (by decide) (by decide) (fun _ => rfl) (fun _ => rfl)
        case ln => exact fun C t E' Q' k h => name_comp_B Xg (topRead_of Tg) (fun b o e => k b o (F2.keep b o e)) (by k_is) (by boot_by_name) (by decide) h rfl rfl rfl rfl (by decide)
        intro Dr h3 tk3 ys k3 nDr hn3 lDr rows3
        obtain ⟨F3, N3⟩ := afterNs F2 N2 k3 hn3
        obtain ⟨oDr, N3, hcDr, cDr, hdDr⟩ := newList_add F2 N3 nDr lDr
        clear F2 N2 k3 hn3 nDr nDm
        (repeat' ((fail_if_success (with_reducible first | show wpAny _ _ (call (Value.ref _) _) _ _ _ | show wpAny _ _ (eval (Expr.ListComp _ _ _ _) _) _ _ _ | show wpAny _ _ (pyIter _) _ _ _ | show wpAny _ _ (exec (Stmt.Assign _ (Expr.ListComp _ _ _ _) _) _) _ _ _ | show wpAny _ _ (exec (Stmt.For _ _ _ _ _) _) _ _ _)); first | (exfalso; omega) | (k_unfold; (try dsimp only)) | walk1 | (dsimp only; walk1) | (leave1; walk_say "STEP leave1"; try dsimp only)))
        obtain ⟨X, T, C⟩ := hid
        have nT := (N3 (57, tabObj ps) (by simp)).1
        have nR := (N3 (Dr, oDr) List.mem_cons_self).1
        have hgood : ∀ ix ∈ (samples n).filter fun ix => ix.length == i + 2, Good n ix := by
          intro ix hix
          obtain ⟨h1, h2'⟩ := List.mem_filter.mp hix
          have h3' : ix.length = i + 2 := by simpa using h2'
          exact ⟨(samples_row h1).2, by omega, .inl (by omega)⟩
        have hlenr : ((samples n).filter fun ix => ix.length == i + 2).length ≤ 64 := by
          have := List.length_filter_le (fun ix : List Nat => ix.length == i + 2) (samples n)
          rw [samples_len] at this
          have h64 := Nat.pow_le_pow_right (n := 2) (by decide) h6
          omega
        refine lsumG (rvs := ys) (rows := (samples n).filter fun ix => ix.length == i + 2) (pushX B F3 rfl rfl) (hmb' _) X T C (tabOf hC F3 nT htr) (hx.at fun _ e => F3.keep _ _ e) (hy.at fun _ e => F3.keep _ _ e) ⟨oDr, nR, hcDr, _, hdDr⟩ hu hz rows3 hn hn2 h6 M ?good (sample_some n h6 i hi) ?len ?room ?un ?ret
        case good => exact hgood
        case len => omega
        case room => show dp + 1 + 9 < recursionLimit; omega
        case un => show un + 3 + 30 < cLine; omega
        case ret =>
          intro s9 r9 t9 hr9 k9 hT9 gb9' dr9 os9
          obtain ⟨h9', g9', d9, tk9', o9⟩ := s9
          dsimp only at k9 hT9 gb9' dr9 os9
          subst dr9 os9
          obtain ⟨ps9', hT9c, hT9t⟩ := hT9
          have htr9' := triples_of hT9c
          obtain ⟨F9, N9⟩ := after57 (l := (Dr, oDr) :: (L' + 1 + 1 + 1, oS2) :: (I, { cls := .type "range_iterator", dict := none, data := .fields #[rawInt (2 + ((i + 1 : Nat) : Int) * 1), rawInt (((n - 2 : Nat) : Int) - ((i + 1 : Nat) : Int)), rawInt 1], slots := #[] }) :: base0) F3 N3 k9 nT hT9t.2 hL57 hg57 (by
            intro q hq
            rcases List.mem_cons.mp hq with rfl | hq
            · exact ⟨List.mem_cons_self, by rw [hcDr]; exact .inr nofun⟩
            rcases List.mem_cons.mp hq with rfl | hq
            · exact ⟨by simp, by rw [dS2]; exact .inl nofun⟩
            rcases List.mem_cons.mp hq with rfl | hq
            · exact ⟨by simp, .inr nofun⟩
            · refine ⟨?_, b57 ps q hq⟩
              rw [hbase]
              exact List.mem_cons_of_mem _ (List.mem_cons_of_mem _ (List.mem_cons_of_mem _ (List.mem_cons_of_mem _ hq))))
          have hid := And.intro X (And.intro T C)
          clear X T C N3 F3 nR nT hT9c hT9t k9
          rw [← hbase] at N9
          (repeat' ((fail_if_success (with_reducible first | show wpAny _ _ (call (Value.ref _) _) _ _ _ | show wpAny _ _ (eval (Expr.ListComp _ _ _ _) _) _ _ _ | show wpAny _ _ (pyIter _) _ _ _ | show wpAny _ _ (exec (Stmt.Assign _ (Expr.ListComp _ _ _ _) _) _) _ _ _ | show wpAny _ _ (exec (Stmt.For _ _ _ _ _) _) _ _ _ | show wpAny _ _ (subscriptTail _ _ _ _) _ _ _ | show wpAny _ _ (binaryOp _ _ _) _ _ _ | show wpAny _ _ (compareOp _ _ _) _ _ _)); first | (exfalso; omega) | (k_unfold; (try dsimp only)) | walk1 | (dsimp only; walk1) | (leave1; walk_say "STEP leave1"; try dsimp only)))
          refine call_len_list ⟨oDr, (N9 (Dr, oDr) (List.mem_cons_of_mem _ List.mem_cons_self)).1, hcDr, _, hdDr⟩ (by have := rows3.1; simp only [List.size_toArray]; omega) ?_
          simp only [List.size_toArray, rows3.1]
          (repeat' ((fail_if_success (with_reducible first | show wpAny _ _ (call (Value.ref _) _) _ _ _ | show wpAny _ _ (eval (Expr.ListComp _ _ _ _) _) _ _ _ | show wpAny _ _ (pyIter _) _ _ _ | show wpAny _ _ (exec (Stmt.Assign _ (Expr.ListComp _ _ _ _) _) _) _ _ _ | show wpAny _ _ (exec (Stmt.For _ _ _ _ _) _) _ _ _ | show wpAny _ _ (subscriptTail _ _ _ _) _ _ _ | show wpAny _ _ (binaryOp _ _ _) _ _ _ | show wpAny _ _ (compareOp _ _ _) _ _ _)); first | (exfalso; omega) | (k_unfold; (try dsimp only)) | walk1 | (dsimp only; walk1) | (leave1; walk_say "STEP leave1"; try dsimp only)))
          have hsum := M.sums (i + 2) (by omega) (by omega)
          refine ox_mul_if rfl (sm_nat (by omega)) hW (by rw [← hsum]; exact sm_rows M hgood (by omega)) ?_
          intro r2 t2 hr2
          (repeat' ((fail_if_success (with_reducible first | show wpAny _ _ (call (Value.ref _) _) _ _ _ | show wpAny _ _ (eval (Expr.ListComp _ _ _ _) _) _ _ _ | show wpAny _ _ (pyIter _) _ _ _ | show wpAny _ _ (exec (Stmt.Assign _ (Expr.ListComp _ _ _ _) _) _) _ _ _ | show wpAny _ _ (exec (Stmt.For _ _ _ _ _) _) _ _ _ | show wpAny _ _ (subscriptTail _ _ _ _) _ _ _ | show wpAny _ _ (binaryOp _ _ _) _ _ _ | show wpAny _ _ (compareOp _ _ _) _ _ _)); first | (exfalso; omega) | (k_unfold; (try dsimp only)) | walk1 | (dsimp only; walk1) | (leave1; walk_say "STEP leave1"; try dsimp only)))
          refine ox_ne_ff hr9 hr2 ?_
          rw [decide_eq_false (by rw [hsum]; exact fun h => h rfl)]
          (repeat' ((fail_if_success (with_reducible first | show wpAny _ _ (call (Value.ref _) _) _ _ _ | show wpAny _ _ (eval (Expr.ListComp _ _ _ _) _) _ _ _ | show wpAny _ _ (pyIter _) _ _ _ | show wpAny _ _ (exec (Stmt.Assign _ (Expr.ListComp _ _ _ _) _) _) _ _ _ | show wpAny _ _ (exec (Stmt.For _ _ _ _ _) _) _ _ _)); first | (exfalso; omega) | (k_unfold; (try dsimp only)) | walk1 | (dsimp only; walk1) | (leave1; walk_say "STEP leave1"; try dsimp only)))
          refine ⟨rfl, rfl, gbare_trans _ _ _ ba gb9', ⟨_, F9, rfl, rfl, rfl, rfl, trivial⟩, ⟨ps9', oS2, { cls := .type "range_iterator", dict := none, data := .fields #[rawInt (2 + ((i + 1 : Nat) : Int) * 1), rawInt (((n - 2 : Nat) : Int) - ((i + 1 : Nat) : Int)), rawInt 1], slots := #[] }, newsSub N9 ?_, htr9', ⟨_, dS2⟩⟩, ⟨nI1, nI2, nI3⟩, (N9 (I, _) (List.mem_cons_of_mem _ (List.mem_cons_of_mem _ (List.mem_cons_of_mem _ List.mem_cons_self)))).1⟩
          intro q hq
          rcases List.mem_cons.mp hq with rfl | hq
          · exact List.mem_cons_self
          rcases List.mem_cons.mp hq with rfl | hq
          · exact List.mem_cons_of_mem _ (List.mem_cons_of_mem _ List.mem_cons_self)
          rcases List.mem_cons.mp hq with rfl | hq
          · exact List.mem_cons_of_mem _ (List.mem_cons_of_mem _ (List.mem_cons_of_mem _ List.mem_cons_self))
          · rw [hbase]
            exact List.mem_cons_of_mem _ (List.mem_cons_of_mem _ (List.mem_cons_of_mem _ (List.mem_cons_of_mem _ hq)))
      case done =>
        clear F N kk1 hIr hI1
        intro s' h' tk' hInv hk'
        obtain ⟨dr, os, ba, ⟨m, F, m1, m2, m3, m4, _⟩, ⟨ps, oS', oI, N, htr, ⟨vS, dS'⟩⟩, ⟨nI1, nI2, nI3⟩, hit⟩ := hInv
        obtain ⟨s'h, s'g, s'd, s't, s'o⟩ := s'
        dsimp only at *
        subst dr os
        obtain ⟨F1, N1⟩ := sinv_done F N hk' ⟨nI1, nI2, nI3⟩
        rw [pin4 m1 m2 m3 m4] at F1
        have N2 := N1
        rw [← hbase] at N2
        clear F N hk' hit N1
        (repeat' ((fail_if_success (with_reducible first | show wpAny _ _ (call (Value.ref _) _) _ _ _ | show wpAny _ _ (eval (Expr.ListComp _ _ _ _) _) _ _ _ | show wpAny _ _ (pyIter _) _ _ _ | show wpAny _ _ (exec (Stmt.Assign _ (Expr.ListComp _ _ _ _) _) _) _ _ _ | show wpAny _ _ (exec (Stmt.For _ _ _ _ _) _) _ _ _)); first | (exfalso; omega) | (k_unfold; (try dsimp only)) | walk1 | (dsimp only; walk1) | (leave1; walk_say "STEP leave1"; try dsimp only)))
        refine for_rng (a := 0) (N := n) rfl ?_
        (repeat' ((fail_if_success (with_reducible first | show wpAny _ _ (call (Value.ref _) _) _ _ _ | show wpAny _ _ (eval (Expr.ListComp _ _ _ _) _) _ _ _ | show wpAny _ _ (pyIter _) _ _ _ | show wpAny _ _ (exec (Stmt.Assign _ (Expr.ListComp _ _ _ _) _) _) _ _ _ | show wpAny _ _ (exec (Stmt.For _ _ _ _ _) _) _ _ _)); first | (exfalso; omega) | (k_unfold; (try dsimp only)) | walk1 | (dsimp only; walk1) | (leave1; walk_say "STEP leave1"; try dsimp only)))
        rename Fr _ _ _ _ => F
        rename News _ _ _ _ => N
        rename IsRange _ _ _ _ _ _ _ _ => rgX
        refine iter_range (N := n) rgX (by omega) (by decide) (by omega) (by decide) ?_
        intro I2 hh2 hI2 kk2 hIr2
        refine ⟨I2, rfl, SInv s g L' x y Dm (.float rW tW) base0 I2 0 n (fun _ => True), ?start2, fun i s' h => h.it, ?turn2, ?done2⟩
        case start2 =>
          exact sinv_start rfl rfl ba F (by rw [← hbase]; exact N) hI2 kk2 rfl rfl rfl rfl trivial htr dS' hIr2
        case turn2 =>
          clear F N kk2 hIr2 hI2
          intro i ti s' h' tk' E' hi hInv hit' hk'
          obtain ⟨dr, os, ba, ⟨m, F, m1, m2, m3, m4, _⟩, ⟨ps, oS', oI, N, htr, ⟨vS, dS'⟩⟩, ⟨nI1, nI2, nI3⟩, hit⟩ := hInv
          obtain ⟨s'h, s'g, s'd, s't, s'o⟩ := s'
          dsimp only at *
          subst dr os
          obtain ⟨F1, N1⟩ := sinv_turn F N hk' ⟨nI1, nI2, nI3⟩ hit'
          rw [pin4 m1 m2 m3 m4] at F1
          rw [← hbase] at N1
          have hv : (0 + (i : Int) * 1) = ((i : Nat) : Int) := by omega
          rw [hv]
          clear F N hk' hit
          (repeat' ((fail_if_success (with_reducible first | show wpAny _ _ (call (Value.ref _) _) _ _ _ | show wpAny _ _ (eval (Expr.ListComp _ _ _ _) _) _ _ _ | show wpAny _ _ (pyIter _) _ _ _ | show wpAny _ _ (exec (Stmt.Assign _ (Expr.ListComp _ _ _ _) _) _) _ _ _ | show wpAny _ _ (exec (Stmt.For _ _ _ _ _) _) _ _ _)); first | (exfalso; omega) | (k_unfold; (try dsimp only)) | walk1 | (dsimp only; walk1) | (leave1; walk_say "STEP leave1"; try dsimp only)))
          refine for_rng (a := 0) (N := n) rfl ?_
          (repeat' ((fail_if_success (with_reducible first | show wpAny _ _ (call (Value.ref _) _) _ _ _ | show wpAny _ _ (eval (Expr.ListComp _ _ _ _) _) _ _ _ | show wpAny _ _ (pyIter _) _ _ _ | show wpAny _ _ (exec (Stmt.Assign _ (Expr.ListComp _ _ _ _) _) _) _ _ _ | show wpAny _ _ (exec (Stmt.For _ _ _ _ _) _) _ _ _)); first | (exfalso; omega) | (k_unfold; (try dsimp only)) | walk1 | (dsimp only; walk1) | (leave1; walk_say "STEP leave1"; try dsimp only)))
          rename Fr _ _ _ _ => F
          rename News _ _ _ _ => N
          rename IsRange _ _ _ _ _ _ _ _ => rgX
          refine iter_range (N := n) rgX (by omega) (by decide) (by omega) (by decide) ?_
          intro J hh3 hI3 kk3 hIr3
          generalize hb1 : (I2, rgIt (0 + ((i + 1 : Nat) : Int) * 1) (((n : Nat) : Int) - ((i + 1 : Nat) : Int))) :: base0 = base1
          have b571 : ∀ (ps : Array Value), ∀ q ∈ base1, q.2.data ≠ .fields ps ∨ q.2.cls ≠ .none := by
            intro ps q hq
            rw [← hb1] at hq
            rcases List.mem_cons.mp hq with rfl | hq
            · exact .inr nofun
            · exact b57 ps q hq
          refine ⟨J, rfl, SInv s g L' x y Dm (.float rW tW) base1 J 0 n (fun m => m "i" = some (.int (i : Nat) ti)), ?start3, fun i s' h => h.it, ?turn3, ?done3⟩
          case start3 => exact sinv_start rfl rfl ba F (by rw [← hb1, ← hbase]; exact N) hI3 kk3 rfl rfl rfl rfl rfl htr dS' hIr3
          case turn3 =>
            clear F N kk3 hIr3 hI3
            intro j tj s' h' tk' E' hj hInv hit' hk'
            obtain ⟨dr, os, ba, ⟨m, F, m1, m2, m3, m4, m0⟩, ⟨ps, oS', oI, N, htr, ⟨vS, dS'⟩⟩, neJ, hit⟩ := hInv
            obtain ⟨s'h, s'g, s'd, s't, s'o⟩ := s'
            dsimp only at *
            subst dr os
            obtain ⟨F1, N1⟩ := sinv_turn F N hk' neJ hit'
            rw [pin5 m0 m1 m2 m3 m4] at F1
            rw [← hb1, ← hbase] at N1
            have hvj : (0 + (j : Int) * 1) = ((j : Nat) : Int) := by omega
            rw [hvj]
            clear F N hk' hit
            (repeat' ((fail_if_success (with_reducible first | show wpAny _ _ (call (Value.ref _) _) _ _ _ | show wpAny _ _ (eval (Expr.ListComp _ _ _ _) _) _ _ _ | show wpAny _ _ (pyIter _) _ _ _ | show wpAny _ _ (exec (Stmt.Assign _ (Expr.ListComp _ _ _ _) _) _) _ _ _ | show wpAny _ _ (exec (Stmt.For _ _ _ _ _) _) _ _ _ | show wpAny _ _ (subscriptTail _ _ _ _) _ _ _ | show wpAny _ _ (binaryOp _ _ _) _ _ _ | show wpAny _ _ (compareOp _ _ _) _ _ _)); first | (exfalso; omega) | (k_unfold; (try dsimp only)) | walk1 | (dsimp only; walk1) | (leave1; walk_say "STEP leave1"; try dsimp only)))
            rename Fr _ _ _ _ => F
            rename News _ _ _ _ => N
            rename_i lij hA1 lA1 lR2 hB1 lB1
            clear lA1 lB1
            obtain ⟨X, T, C⟩ := hid
            have nT := (N (57, tabObj ps) (by simp)).1
            have nR := (N (lR2, W.listOf #[Value.ref lij] 0) List.mem_cons_self).1
            have nI := (N (lij, W.listOf #[Value.int (i : Nat) ti, Value.int (j : Nat) tj] 0) (List.mem_cons_of_mem _ List.mem_cons_self)).1
            have hG : Good n [i, j] := good_pair h2 hi hj
            refine lsumG (rvs := [.ref lij]) (rows := [[i, j]]) (pushX B F rfl rfl) (hmb' _) X T C (tabOf hC F nT htr) (hx.at fun _ e => F.keep _ _ e) (hy.at fun _ e => F.keep _ _ e) ⟨_, nR, rfl, _, rfl⟩ hu hz
              (rowsCons (rv := [Value.int (i : Nat) ti, Value.int (j : Nat) tj]) ⟨_, nI, rfl, _, rfl⟩ (ixCons (ixCons ⟨rfl, fun i v hv => by simp at hv⟩)) ⟨rfl, fun i v hv => by simp at hv⟩) hn hn2 h6 M (fun ix hix => by rw [List.mem_singleton.mp hix]; exact hG) (by simp) (by simp) ?room ?un ?ret
            case room => show dp + 1 + 9 < recursionLimit; omega
            case un => show un + 3 + 30 < cLine; omega
            case ret =>
              intro s9 r9 t9 hr9 k9 hT9 gb9' dr9 os9
              obtain ⟨h9', g9', d9, tk9', o9⟩ := s9
              dsimp only at k9 hT9 gb9' dr9 os9
              subst dr9 os9
              obtain ⟨ps9', hT9c, hT9t⟩ := hT9
              have htr9' := triples_of hT9c
              obtain ⟨F9, N9⟩ := after57 (l := (L' + 1 + 1 + 1, oS') :: (J, rgIt (0 + ((j + 1 : Nat) : Int) * 1) (((n : Nat) : Int) - ((j + 1 : Nat) : Int))) :: base1) F N k9 nT hT9t.2 hL57 hg57 (by
                intro q hq
                rcases List.mem_cons.mp hq with rfl | hq
                · exact ⟨by simp, by rw [dS']; exact .inl nofun⟩
                rcases List.mem_cons.mp hq with rfl | hq
                · exact ⟨by simp, .inr nofun⟩
                · refine ⟨?_, b571 ps q hq⟩
                  rw [← hb1, ← hbase] at hq
                  exact List.mem_cons_of_mem _ (List.mem_cons_of_mem _ (List.mem_cons_of_mem _ (List.mem_cons_of_mem _ (List.mem_cons_of_mem _ hq)))))
              have hid := And.intro X (And.intro T C)
              clear X T C N F nR nT nI hT9c hT9t k9
              rw [← hb1, ← hbase] at N9
              obtain ⟨xi, txi, exi, hxi⟩ := vx_float hu huf (i := i) (by omega)
              obtain ⟨xj, txj, exj, hxj⟩ := vx_float hu huf (i := j) (by omega)
              obtain ⟨yi, tyi, eyi, hyi⟩ := vx_int hz hzi (i := i) (by omega)
              obtain ⟨yj, tyj, eyj, hyj⟩ := vx_int hz hzi (i := j) (by omega)
              (repeat' ((fail_if_success (with_reducible first | show wpAny _ _ (call (Value.ref _) _) _ _ _ | show wpAny _ _ (eval (Expr.ListComp _ _ _ _) _) _ _ _ | show wpAny _ _ (pyIter _) _ _ _ | show wpAny _ _ (exec (Stmt.Assign _ (Expr.ListComp _ _ _ _) _) _) _ _ _ | show wpAny _ _ (exec (Stmt.For _ _ _ _ _) _) _ _ _ | show wpAny _ _ (subscriptTail _ _ _ _) _ _ _ | show wpAny _ _ (binaryOp _ _ _) _ _ _ | show wpAny _ _ (compareOp _ _ _) _ _ _)); first | (exfalso; omega) | (k_unfold; (try dsimp only)) | walk1 | (dsimp only; walk1) | (leave1; walk_say "STEP leave1"; try dsimp only)))
              refine item_listL (hx.at fun _ e => F9.keep _ _ e) (by omega) (by omega) (by simpa using exi) ?_
              (repeat' ((fail_if_success (with_reducible first | show wpAny _ _ (call (Value.ref _) _) _ _ _ | show wpAny _ _ (eval (Expr.ListComp _ _ _ _) _) _ _ _ | show wpAny _ _ (pyIter _) _ _ _ | show wpAny _ _ (exec (Stmt.Assign _ (Expr.ListComp _ _ _ _) _) _) _ _ _ | show wpAny _ _ (exec (Stmt.For _ _ _ _ _) _) _ _ _ | show wpAny _ _ (subscriptTail _ _ _ _) _ _ _ | show wpAny _ _ (binaryOp _ _ _) _ _ _ | show wpAny _ _ (compareOp _ _ _) _ _ _)); first | (exfalso; omega) | (k_unfold; (try dsimp only)) | walk1 | (dsimp only; walk1) | (leave1; walk_say "STEP leave1"; try dsimp only)))
              refine item_listL (hx.at fun _ e => F9.keep _ _ e) (by omega) (by omega) (by simpa using exj) ?_
              obtain ⟨q1, q2, q3, q4, q5⟩ := pair_facts M h2 hi hj hyi hyj
              refine ox_sub_ff hxi hxj q1 ?_
              intro r1 t1 hr1
              (repeat' ((fail_if_success (with_reducible first | show wpAny _ _ (call (Value.ref _) _) _ _ _ | show wpAny _ _ (eval (Expr.ListComp _ _ _ _) _) _ _ _ | show wpAny _ _ (pyIter _) _ _ _ | show wpAny _ _ (exec (Stmt.Assign _ (Expr.ListComp _ _ _ _) _) _) _ _ _ | show wpAny _ _ (exec (Stmt.For _ _ _ _ _) _) _ _ _ | show wpAny _ _ (subscriptTail _ _ _ _) _ _ _ | show wpAny _ _ (binaryOp _ _ _) _ _ _ | show wpAny _ _ (compareOp _ _ _) _ _ _)); first | (exfalso; omega) | (k_unfold; (try dsimp only)) | walk1 | (dsimp only; walk1) | (leave1; walk_say "STEP leave1"; try dsimp only)))
              refine item_listL (hy.at fun _ e => F9.keep _ _ e) (by omega) (by omega) (by simpa using eyi) ?_
              (repeat' ((fail_if_success (with_reducible first | show wpAny _ _ (call (Value.ref _) _) _ _ _ | show wpAny _ _ (eval (Expr.ListComp _ _ _ _) _) _ _ _ | show wpAny _ _ (pyIter _) _ _ _ | show wpAny _ _ (exec (Stmt.Assign _ (Expr.ListComp _ _ _ _) _) _) _ _ _ | show wpAny _ _ (exec (Stmt.For _ _ _ _ _) _) _ _ _ | show wpAny _ _ (subscriptTail _ _ _ _) _ _ _ | show wpAny _ _ (binaryOp _ _ _) _ _ _ | show wpAny _ _ (compareOp _ _ _) _ _ _)); first | (exfalso; omega) | (k_unfold; (try dsimp only)) | walk1 | (dsimp only; walk1) | (leave1; walk_say "STEP leave1"; try dsimp only)))
              refine item_listL (hy.at fun _ e => F9.keep _ _ e) (by omega) (by omega) (by simpa using eyj) ?_
              refine sub_int ?_
              refine ox_mul_fi rfl hr1 q2 (by rw [q3]; exact q4) ?_
              intro r2 t2 hr2
              (repeat' ((fail_if_success (with_reducible first | show wpAny _ _ (call (Value.ref _) _) _ _ _ | show wpAny _ _ (eval (Expr.ListComp _ _ _ _) _) _ _ _ | show wpAny _ _ (pyIter _) _ _ _ | show wpAny _ _ (exec (Stmt.Assign _ (Expr.ListComp _ _ _ _) _) _) _ _ _ | show wpAny _ _ (exec (Stmt.For _ _ _ _ _) _) _ _ _ | show wpAny _ _ (subscriptTail _ _ _ _) _ _ _ | show wpAny _ _ (binaryOp _ _ _) _ _ _ | show wpAny _ _ (compareOp _ _ _) _ _ _)); first | (exfalso; omega) | (k_unfold; (try dsimp only)) | walk1 | (dsimp only; walk1) | (leave1; walk_say "STEP leave1"; try dsimp only)))
              refine ox_div_fi (c := cv [i, j]) (n := 2) rfl hr2 (sm_nat (n := 2) (by decide)) (by decide) q3 q5 ?_
              intro r3 t3 hr3
              (repeat' ((fail_if_success (with_reducible first | show wpAny _ _ (call (Value.ref _) _) _ _ _ | show wpAny _ _ (eval (Expr.ListComp _ _ _ _) _) _ _ _ | show wpAny _ _ (pyIter _) _ _ _ | show wpAny _ _ (exec (Stmt.Assign _ (Expr.ListComp _ _ _ _) _) _) _ _ _ | show wpAny _ _ (exec (Stmt.For _ _ _ _ _) _) _ _ _ | show wpAny _ _ (subscriptTail _ _ _ _) _ _ _ | show wpAny _ _ (binaryOp _ _ _) _ _ _ | show wpAny _ _ (compareOp _ _ _) _ _ _)); first | (exfalso; omega) | (k_unfold; (try dsimp only)) | walk1 | (dsimp only; walk1) | (leave1; walk_say "STEP leave1"; try dsimp only)))
              have e9 : sumI ([[i, j]].map cv) = cv [i, j] := by simp [sumI]
              refine ox_ne_ff hr9 hr3 ?_
              rw [decide_eq_false (by rw [e9]; exact fun h => h rfl)]
              (repeat' ((fail_if_success (with_reducible first | show wpAny _ _ (call (Value.ref _) _) _ _ _ | show wpAny _ _ (eval (Expr.ListComp _ _ _ _) _) _ _ _ | show wpAny _ _ (pyIter _) _ _ _ | show wpAny _ _ (exec (Stmt.Assign _ (Expr.ListComp _ _ _ _) _) _) _ _ _ | show wpAny _ _ (exec (Stmt.For _ _ _ _ _) _) _ _ _)); first | (exfalso; omega) | (k_unfold; (try dsimp only)) | walk1 | (dsimp only; walk1) | (leave1; walk_say "STEP leave1"; try dsimp only)))
              refine ⟨rfl, rfl, gbare_trans _ _ _ ba gb9', ⟨_, F9, rfl, rfl, rfl, rfl, rfl⟩, ⟨ps9', oS', rgIt (0 + ((j + 1 : Nat) : Int) * 1) (((n : Nat) : Int) - ((j + 1 : Nat) : Int)), by rw [← hb1, ← hbase]; exact N9, htr9', ⟨_, dS'⟩⟩, neJ, (N9 (J, _) (List.mem_cons_of_mem _ (List.mem_cons_of_mem _ List.mem_cons_self))).1⟩
          case done3 =>
            clear F N kk3 hIr3 hI3
            intro s' h' tk' hInv hk'
            obtain ⟨dr, os, ba, ⟨m, F, m1, m2, m3, m4, m0⟩, ⟨ps, oS', oI, N, htr, ⟨vS, dS'⟩⟩, neJ, hit⟩ := hInv
            obtain ⟨s'h, s'g, s'd, s't, s'o⟩ := s'
            dsimp only at *
            subst dr os
            obtain ⟨F1, N1⟩ := sinv_done F N hk' neJ
            rw [← hb1] at N1
            clear F N hk' hit
            (repeat' ((fail_if_success (with_reducible first | show wpAny _ _ (call (Value.ref _) _) _ _ _ | show wpAny _ _ (eval (Expr.ListComp _ _ _ _) _) _ _ _ | show wpAny _ _ (pyIter _) _ _ _ | show wpAny _ _ (exec (Stmt.Assign _ (Expr.ListComp _ _ _ _) _) _) _ _ _ | show wpAny _ _ (exec (Stmt.For _ _ _ _ _) _) _ _ _)); first | (exfalso; omega) | (k_unfold; (try dsimp only)) | walk1 | (dsimp only; walk1) | (leave1; walk_say "STEP leave1"; try dsimp only)))
            exact ⟨rfl, rfl, ba, ⟨m, F1, m1, m2, m3, m4, trivial⟩, ⟨ps, oS', _, N1, htr, ⟨_, dS'⟩⟩, ⟨nI1, nI2, nI3⟩, (N1 (I2, _) (List.mem_cons_of_mem _ (List.mem_cons_of_mem _ List.mem_cons_self))).1⟩
        case done2 =>
          clear F N kk2 hIr2 hI2
          intro s' h' tk' hInv hk'
          obtain ⟨dr, os, ba, ⟨m, F, m1, m2, m3, m4, _⟩, ⟨ps, oS', oI, N, htr, ⟨vS, dS'⟩⟩, neI, hit⟩ := hInv
          obtain ⟨s'h, s'g, s'd, s't, s'o⟩ := s'
          dsimp only at *
          subst dr os
          obtain ⟨F1, N1⟩ := sinv_done F N hk' neI
          rw [pin4 m1 m2 m3 m4] at F1
          rw [← hbase] at N1
          clear F N hk' hit
          (repeat' ((fail_if_success (with_reducible first | show wpAny _ _ (call (Value.ref _) _) _ _ _ | show wpAny _ _ (eval (Expr.ListComp _ _ _ _) _) _ _ _ | show wpAny _ _ (pyIter _) _ _ _ | show wpAny _ _ (exec (Stmt.Assign _ (Expr.ListComp _ _ _ _) _) _) _ _ _ | show wpAny _ _ (exec (Stmt.For _ _ _ _ _) _) _ _ _)); first | (exfalso; omega) | (k_unfold; (try dsimp only)) | walk1 | (dsimp only; walk1) | (leave1; walk_say "STEP leave1"; try dsimp only)))
          refine exec_assign_comp (cl := [("n", L' + 1)]) rfl (fun _ => rfl) (by rfl) rfl (by decide) rfl rfl ?_
          (repeat' ((fail_if_success (with_reducible first | show wpAny _ _ (call (Value.ref _) _) _ _ _ | show wpAny _ _ (eval (Expr.ListComp _ _ _ _) _) _ _ _ | show wpAny _ _ (pyIter _) _ _ _ | show wpAny _ _ (exec (Stmt.Assign _ (Expr.ListComp _ _ _ _) _) _) _ _ _ | show wpAny _ _ (exec (Stmt.For _ _ _ _ _) _) _ _ _)); first | (exfalso; omega) | (k_unfold; (try dsimp only)) | walk1 | (dsimp only; walk1) | (leave1; walk_say "STEP leave1"; try dsimp only)))
          rename Fr _ _ _ _ => F
          rename News _ _ _ _ => N
          rename IsRange _ _ _ _ _ _ _ _ => rgX
          refine iter_range (N := n) rgX (by omega) (by decide) (by omega) (by decide) ?_
          intro I4 h5 hI5 k5 hIr
          have nN := N (L' + 1, oN) (by simp)
          refine triples_core (n := n) rfl h6 hIr ?m1 ?m2 ?hRR (by decide) rfl (fun C => ⟨rfl, rfl, rfl, rfl, by decide, by decide, by decide, by decide, by decide, by decide⟩) (fun _ _ => rfl) (fun _ _ => rfl)
          case m1 =>
            intro C t E' Q' k h
            have kb : ∀ b o, _ → t.heap.get? b = some o := fun b o e => k b o (fun q => Nat.lt_irrefl _ (Nat.lt_of_lt_of_le (Heap.lt_size e) (q ▸ hI5))) (k5 b o e)
            exact range_in (c := L' + 1) (o := oN) Xg (topRead_of Tg) (fun b o e => kb b o (F.keep b o e)) (by k_is) (by boot_by_name) (by decide) h6 (kb _ _ nN.1) dN h rfl rfl rfl rfl (by decide) rfl rfl (by decide) rfl
          case m2 =>
            intro C t E' Q' k h
            have kb : ∀ b o, _ → t.heap.get? b = some o := fun b o e => k b o (fun q => Nat.lt_irrefl _ (Nat.lt_of_lt_of_le (Heap.lt_size e) (q ▸ hI5))) (k5 b o e)
            exact range_in (c := L' + 1) (o := oN) Xg (topRead_of Tg) (fun b o e => kb b o (F.keep b o e)) (by k_is) (by boot_by_name) (by decide) h6 (kb _ _ nN.1) dN h rfl rfl rfl rfl (by decide) rfl rfl (by decide) rfl
          case hRR =>
            intro Dm2 Cm h7 tk7 rvs2 m7 k7 nDm nCm hDC hCm lDm hRows
            have kAll : ∀ b o, _ → h7.get? b = some o := fun b o e => k7 b o (fun q => Nat.lt_irrefl _ (Nat.lt_of_lt_of_le (Heap.lt_size e) (q ▸ hI5))) (k5 b o e)
            have F7 := frKeep F kAll
            have CL : Cm ≠ L' := fun q => by
              obtain ⟨oL, _, _, hoL, _⟩ := F.ns
              have := k5 _ _ hoL
              rw [← q, nCm] at this; cases this
            have DL : Dm2 ≠ L' := fun q => by
              obtain ⟨oL, _, _, hoL, _⟩ := F.ns
              have := k5 _ _ hoL
              rw [← q, nDm] at this; cases this
            refine ⟨m7, _, hCm, F7.ns, CL, fun h8 hn8 k8 => ?_⟩
            obtain ⟨F8, N8⟩ := afterAsg F N kAll (by
              cases z : Heap.get? _ Cm with
              | none => rfl
              | some o => have := k5 _ _ z; rw [nCm] at this; cases this) hn8 k8
            have rows8 : RowsAre h8 rvs2 (triples n) := hRows.at2 fun b o e hsq => k8 b o (not_ns e hsq F7.ns) (not_ns e hsq hCm) e
            obtain ⟨oDm2, hoDm2, hcDm2, cDm2, hdDm2⟩ := lDm.at (h' := h8) fun o e => k8 _ _ DL hDC e
            have gDm2 : g.get? Dm2 = none := by
              cases z : g.get? Dm2 with
              | none => rfl
              | some o => have := k5 _ _ (F.keep _ _ z); rw [nDm] at this; cases this
            have NN := newsAdd N8 hoDm2 DL gDm2
            clear F N F7 hn8 k8 N8 hRows lDm k7 kAll nN k5 hIr
            dsimp only
            (repeat' ((fail_if_success (with_reducible first | show wpAny _ _ (call (Value.ref _) _) _ _ _ | show wpAny _ _ (eval (Expr.ListComp _ _ _ _) _) _ _ _ | show wpAny _ _ (pyIter _) _ _ _ | show wpAny _ _ (exec (Stmt.Assign _ (Expr.ListComp _ _ _ _) _) _) _ _ _ | show wpAny _ _ (exec (Stmt.For _ _ _ _ _) _) _ _ _)); first | (exfalso; omega) | (k_unfold; (try dsimp only)) | walk1 | (dsimp only; walk1) | (leave1; walk_say "STEP leave1"; try dsimp only)))
            obtain ⟨X, T, C⟩ := hid
            have nT := (NN (57, tabObj ps) (by simp)).1
            have hnnn : n * (n * n) ≤ 6 * (6 * 6) := Nat.mul_le_mul h6 (Nat.mul_le_mul h6 h6)
            have hpos : 2 * (2 * 2) ≤ n * (n * n) := Nat.mul_le_mul h2 (Nat.mul_le_mul h2 h2)
            refine lsumG (rvs := rvs2) (rows := triples n) (pushX B F8 rfl rfl) (hmb' _) X T C (tabOf hC F8 nT htr) (hx.at fun _ e => F8.keep _ _ e) (hy.at fun _ e => F8.keep _ _ e) ⟨oDm2, hoDm2, hcDm2, _, hdDm2⟩ hu hz rows8 hn hn2 h6 M triples_good (by rw [triples_len]; omega) (by rw [triples_len]; omega) ?room ?un ?ret
            case room => show dp + 1 + 9 < recursionLimit; omega
            case un => show un + 3 + 30 < cLine; omega
            case ret =>
              intro s9 r9 t9 hr9 k9 hT9 gb9' dr9 os9
              obtain ⟨h9', g9', d9, tk9', o9⟩ := s9
              dsimp only at k9 hT9 gb9' dr9 os9
              subst dr9 os9
              obtain ⟨ps9', hT9c, hT9t⟩ := hT9
              have htr9' := triples_of hT9c
              obtain ⟨F9, N9⟩ := after57 (l := [(L' + 1, oN)]) F8 NN k9 nT hT9t.2 hL57 hg57 (by
                intro q hq
                rw [List.mem_singleton.mp hq]
                exact ⟨by simp, by rw [dN]; exact .inl nofun⟩)
              have hid := And.intro X (And.intro T C)
              clear X T C NN F8 nT hT9c hT9t k9 rows8
              (repeat' ((fail_if_success (with_reducible first | show wpAny _ _ (call (Value.ref _) _) _ _ _ | show wpAny _ _ (eval (Expr.ListComp _ _ _ _) _) _ _ _ | show wpAny _ _ (pyIter _) _ _ _ | show wpAny _ _ (exec (Stmt.Assign _ (Expr.ListComp _ _ _ _) _) _) _ _ _ | show wpAny _ _ (exec (Stmt.For _ _ _ _ _) _) _ _ _ | show wpAny _ _ (subscriptTail _ _ _ _) _ _ _ | show wpAny _ _ (binaryOp _ _ _) _ _ _ | show wpAny _ _ (compareOp _ _ _) _ _ _)); first | (exfalso; omega) | (k_unfold; (try dsimp only)) | walk1 | (dsimp only; walk1) | (leave1; walk_say "STEP leave1"; try dsimp only)))
              walk1
              (repeat' ((fail_if_success (with_reducible first | show wpAny _ _ (call (Value.ref _) _) _ _ _ | show wpAny _ _ (eval (Expr.ListComp _ _ _ _) _) _ _ _ | show wpAny _ _ (pyIter _) _ _ _ | show wpAny _ _ (exec (Stmt.Assign _ (Expr.ListComp _ _ _ _) _) _) _ _ _ | show wpAny _ _ (exec (Stmt.For _ _ _ _ _) _) _ _ _ | show wpAny _ _ (subscriptTail _ _ _ _) _ _ _ | show wpAny _ _ (binaryOp _ _ _) _ _ _ | show wpAny _ _ (compareOp _ _ _) _ _ _)); first | (exfalso; omega) | (k_unfold; (try dsimp only)) | walk1 | (dsimp only; walk1) | (leave1; walk_say "STEP leave1"; try dsimp only)))
              walk1
              (repeat' ((fail_if_success (with_reducible first | show wpAny _ _ (call (Value.ref _) _) _ _ _ | show wpAny _ _ (eval (Expr.ListComp _ _ _ _) _) _ _ _ | show wpAny _ _ (pyIter _) _ _ _ | show wpAny _ _ (exec (Stmt.Assign _ (Expr.ListComp _ _ _ _) _) _) _ _ _ | show wpAny _ _ (exec (Stmt.For _ _ _ _ _) _) _ _ _ | show wpAny _ _ (subscriptTail _ _ _ _) _ _ _ | show wpAny _ _ (binaryOp _ _ _) _ _ _ | show wpAny _ _ (compareOp _ _ _) _ _ _)); first | (exfalso; omega) | (k_unfold; (try dsimp only)) | walk1 | (dsimp only; walk1) | (leave1; walk_say "STEP leave1"; try dsimp only)))
              walk1
              (repeat' ((fail_if_success (with_reducible first | show wpAny _ _ (call (Value.ref _) _) _ _ _ | show wpAny _ _ (eval (Expr.ListComp _ _ _ _) _) _ _ _ | show wpAny _ _ (pyIter _) _ _ _ | show wpAny _ _ (exec (Stmt.Assign _ (Expr.ListComp _ _ _ _) _) _) _ _ _ | show wpAny _ _ (exec (Stmt.For _ _ _ _ _) _) _ _ _ | show wpAny _ _ (subscriptTail _ _ _ _) _ _ _ | show wpAny _ _ (binaryOp _ _ _) _ _ _ | show wpAny _ _ (compareOp _ _ _) _ _ _)); first | (exfalso; omega) | (k_unfold; (try dsimp only)) | walk1 | (dsimp only; walk1) | (leave1; walk_say "STEP leave1"; try dsimp only)))
              walk1
              (repeat' ((fail_if_success (with_reducible first | show wpAny _ _ (call (Value.ref _) _) _ _ _ | show wpAny _ _ (eval (Expr.ListComp _ _ _ _) _) _ _ _ | show wpAny _ _ (pyIter _) _ _ _ | show wpAny _ _ (exec (Stmt.Assign _ (Expr.ListComp _ _ _ _) _) _) _ _ _ | show wpAny _ _ (exec (Stmt.For _ _ _ _ _) _) _ _ _ | show wpAny _ _ (subscriptTail _ _ _ _) _ _ _ | show wpAny _ _ (binaryOp _ _ _) _ _ _ | show wpAny _ _ (compareOp _ _ _) _ _ _)); first | (exfalso; omega) | (k_unfold; (try dsimp only)) | walk1 | (dsimp only; walk1) | (leave1; walk_say "STEP leave1"; try dsimp only)))
              obtain ⟨q1, q2, q3, q4⟩ := draws_facts M h2 h6
              refine ox_mul_if rfl q1 hW q2 ?_
              intro r2 t2 hr2
              (repeat' ((fail_if_success (with_reducible first | show wpAny _ _ (call (Value.ref _) _) _ _ _ | show wpAny _ _ (eval (Expr.ListComp _ _ _ _) _) _ _ _ | show wpAny _ _ (pyIter _) _ _ _ | show wpAny _ _ (exec (Stmt.Assign _ (Expr.ListComp _ _ _ _) _) _) _ _ _ | show wpAny _ _ (exec (Stmt.For _ _ _ _ _) _) _ _ _ | show wpAny _ _ (subscriptTail _ _ _ _) _ _ _ | show wpAny _ _ (binaryOp _ _ _) _ _ _ | show wpAny _ _ (compareOp _ _ _) _ _ _)); first | (exfalso; omega) | (k_unfold; (try dsimp only)) | walk1 | (dsimp only; walk1) | (leave1; walk_say "STEP leave1"; try dsimp only)))
              refine ox_div_fi (c := sumI ((triples n).map cv)) (n := 3) rfl hr2 (sm_nat (n := 3) (by decide)) (by decide) q3 q4 ?_
              intro r3 t3 hr3
              (repeat' ((fail_if_success (with_reducible first | show wpAny _ _ (call (Value.ref _) _) _ _ _ | show wpAny _ _ (eval (Expr.ListComp _ _ _ _) _) _ _ _ | show wpAny _ _ (pyIter _) _ _ _ | show wpAny _ _ (exec (Stmt.Assign _ (Expr.ListComp _ _ _ _) _) _) _ _ _ | show wpAny _ _ (exec (Stmt.For _ _ _ _ _) _) _ _ _ | show wpAny _ _ (subscriptTail _ _ _ _) _ _ _ | show wpAny _ _ (binaryOp _ _ _) _ _ _ | show wpAny _ _ (compareOp _ _ _) _ _ _)); first | (exfalso; omega) | (k_unfold; (try dsimp only)) | walk1 | (dsimp only; walk1) | (leave1; walk_say "STEP leave1"; try dsimp only)))
              refine ox_eq_ff hr9 hr3 ?_
              rw [decide_eq_true rfl]
              (repeat' ((fail_if_success (with_reducible first | show wpAny _ _ (call (Value.ref _) _) _ _ _ | show wpAny _ _ (eval (Expr.ListComp _ _ _ _) _) _ _ _ | show wpAny _ _ (pyIter _) _ _ _ | show wpAny _ _ (exec (Stmt.Assign _ (Expr.ListComp _ _ _ _) _) _) _ _ _ | show wpAny _ _ (exec (Stmt.For _ _ _ _ _) _) _ _ _)); first | (exfalso; omega) | (k_unfold; (try dsimp only)) | walk1 | (dsimp only; walk1) | (leave1; walk_say "STEP leave1"; try dsimp only)))
              exact ret _ (fun b o hb e => F9.keep _ _ (Kp b o (by simpa using hb) e)) (tabOf hC F9 (N9 _ List.mem_cons_self).1 htr9') (gbare_trans _ _ _ ba gb9') rfl rfl
end Mine
end
theorem Mine.anewP1 : True := by
  w_top off
  exact trivial
section
open PySem PySem.Float64
set_option Elab.async false
set_option linter.unusedVariables false
namespace Mine
def cK (k : Nat) : Int := 57600 / ((k : Int) * ((k : Int) - 1))
abbrev S (f : Nat → Int) (ix : List Nat) : Int := sumI (ix.map f)
/-- the covariance of a row, in the unit of exact floats -/
def cvv (fa fb : Nat → Int) (ix : List Nat) : Int := cK ix.length * ((ix.length : Int) * S (fun i => fa i * fb i) ix - S fa ix * S fb ix)

theorem s_lin (F c : Int) (f : Nat → Int) : ∀ ix : List Nat, S (fun i => F + c * f i) ix = (ix.length : Int) * F + c * S f ix
  | [] => by simp [S, sumI]
  | x :: ix => by
    have ih := s_lin F c f ix
    show F + c * f x + S (fun i => F + c * f i) ix = ((ix.length + 1 : Nat) : Int) * F + c * (f x + S f ix)
    rw [ih]
    grind
theorem s_prod (d k A B : Int) (fa fb : Nat → Int) : ∀ ix : List Nat, S (fun i => d * ((k * fa i - A) * (k * fb i - B))) ix = d * (k * k * S (fun i => fa i * fb i) ix - k * B * S fa ix - k * A * S fb ix + (ix.length : Int) * (A * B))
  | [] => by simp [S, sumI]
  | x :: ix => by
    have ih := s_prod d k A B fa fb ix
    show d * ((k * fa x - A) * (k * fb x - B)) + S (fun i => d * ((k * fa i - A) * (k * fb i - B))) ix = d * (k * k * (fa x * fb x + S (fun i => fa i * fb i) ix) - k * B * (fa x + S fa ix) - k * A * (fb x + S fb ix) + ((ix.length + 1 : Nat) : Int) * (A * B))
    rw [ih]
    grind
theorem sumA_le {B : Nat} : ∀ l : List Int, (∀ x ∈ l, x.natAbs ≤ B) → sumA l ≤ l.length * B
  | [], _ => Nat.zero_le _
  | x :: l, h => by
    have ih := sumA_le l fun y hy => h y (List.mem_cons_of_mem _ hy)
    have h0 := h x List.mem_cons_self
    show x.natAbs + sumA l ≤ (l.length + 1) * B
    rw [Nat.succ_mul]; omega
theorem s_le {f : Nat → Int} {B : Nat} (ix : List Nat) (h : ∀ i, (f i).natAbs ≤ B) : (S f ix).natAbs ≤ ix.length * B := by
  have := sumA_le (B := B) (ix.map f) fun x hx => by
    obtain ⟨i, _, rfl⟩ := List.mem_map.mp hx
    exact h i
  rw [List.length_map] at this
  exact Nat.le_trans (sumI_le _) this

theorem covM_gen {ix : List Nat} {fa fb : Nat → Int} {F e e' d c : Int} {k : Nat} (hk : ix.length = k) (h2 : 2 ≤ k) (h16 : k ≤ 16) (he : 0 ≤ e) (he' : 0 ≤ e') (hd : 0 ≤ d) (h1 : e * k = 3840) (h1' : e' * k = 245760) (h3 : e * e' = d * 16384) (h4 : d * k = c * ((k : Int) - 1)) (h5 : d * k * k = 57600)
    (ha : ∀ i, (fa i).natAbs ≤ 1023) (hb : ∀ i, (fb i).natAbs ≤ 1023) (hF : F.natAbs ≤ 2 ^ 44) :
    CovM (ix.map fun i => F + 3840 * fa i) (ix.map fun i => F + 245760 * fb i) k (c * ((k : Int) * S (fun i => fa i * fb i) ix - S fa ix * S fb ix)) ∧ (c * ((k : Int) * S (fun i => fa i * fb i) ix - S fa ix * S fb ix)).natAbs ≤ 2 ^ 40 := by
  have bA := s_le ix ha
  have bB := s_le ix hb
  rw [hk] at bA bB
  have eSA : (e * S fa ix).natAbs ≤ 3840 * 1023 := by
    rw [Int.natAbs_mul]
    have : e.natAbs * k = 3840 := by
      have := congrArg Int.natAbs h1
      rw [Int.natAbs_mul, Int.natAbs_natCast] at this
      exact this
    calc e.natAbs * (S fa ix).natAbs ≤ e.natAbs * (k * 1023) := Nat.mul_le_mul_left _ bA
      _ = 3840 * 1023 := by rw [← Nat.mul_assoc, this]
  have eSB : (e' * S fb ix).natAbs ≤ 245760 * 1023 := by
    rw [Int.natAbs_mul]
    have : e'.natAbs * k = 245760 := by
      have := congrArg Int.natAbs h1'
      rw [Int.natAbs_mul, Int.natAbs_natCast] at this
      exact this
    calc e'.natAbs * (S fb ix).natAbs ≤ e'.natAbs * (k * 1023) := Nat.mul_le_mul_left _ bB
      _ = 245760 * 1023 := by rw [← Nat.mul_assoc, this]
  have bm : ∀ i, (F + 3840 * fa i).natAbs ≤ 2 ^ 45 := fun i => by have := ha i; omega
  have bk : ∀ i, (F + 245760 * fb i).natAbs ≤ 2 ^ 45 := fun i => by have := hb i; omega
  have bc : ∀ i, (d * (((k : Int) * fa i - S fa ix) * ((k : Int) * fb i - S fb ix))).natAbs ≤ 2 ^ 38 := fun i => by
    have x1 : ((k : Int) * fa i - S fa ix).natAbs ≤ k * 2046 := by
      have h := ha i
      have : ((k : Int) * fa i).natAbs ≤ k * 1023 := by rw [Int.natAbs_mul, Int.natAbs_natCast]; exact Nat.mul_le_mul_left _ h
      omega
    have x2 : ((k : Int) * fb i - S fb ix).natAbs ≤ k * 2046 := by
      have h := hb i
      have : ((k : Int) * fb i).natAbs ≤ k * 1023 := by rw [Int.natAbs_mul, Int.natAbs_natCast]; exact Nat.mul_le_mul_left _ h
      omega
    have hd5 : d.natAbs * k * k = 57600 := by
      have := congrArg Int.natAbs h5
      rw [Int.natAbs_mul, Int.natAbs_mul, Int.natAbs_natCast] at this
      exact this
    rw [Int.natAbs_mul, Int.natAbs_mul]
    calc d.natAbs * (((k : Int) * fa i - S fa ix).natAbs * ((k : Int) * fb i - S fb ix).natAbs) ≤ d.natAbs * ((k * 2046) * (k * 2046)) := Nat.mul_le_mul_left _ (Nat.mul_le_mul x1 x2)
      _ = d.natAbs * k * k * (2046 * 2046) := by ac_rfl
      _ ≤ 2 ^ 38 := by rw [hd5]; decide
  have hsum : S (fun i => d * (((k : Int) * fa i - S fa ix) * ((k : Int) * fb i - S fb ix))) ix = c * ((k : Int) * S (fun i => fa i * fb i) ix - S fa ix * S fb ix) * ((k : Int) - 1) := by
    rw [s_prod, hk]
    generalize S (fun i => fa i * fb i) ix = SAB
    generalize S fa ix = SA
    generalize S fb ix = SB
    grind
  have bsum := s_le (f := fun i => d * (((k : Int) * fa i - S fa ix) * ((k : Int) * fb i - S fb ix))) ix bc
  rw [hsum, hk, Int.natAbs_mul] at bsum
  have hk1 : ((k : Int) - 1).natAbs = k - 1 := by omega
  rw [hk1] at bsum
  generalize hR : (c * ((k : Int) * S (fun i => fa i * fb i) ix - S fa ix * S fb ix)) = R at *
  have bR : R.natAbs ≤ 2 ^ 39 := by
    have hkk : k ≤ 2 * (k - 1) := by omega
    have h6 : R.natAbs * (k - 1) ≤ 2 ^ 39 * (k - 1) := by
      calc R.natAbs * (k - 1) ≤ k * 2 ^ 38 := bsum
        _ ≤ 2 * (k - 1) * 2 ^ 38 := Nat.mul_le_mul_right _ hkk
        _ = 2 ^ 39 * (k - 1) := by rw [Nat.mul_comm 2, Nat.mul_assoc, Nat.mul_comm]
    exact Nat.le_of_mul_le_mul_right h6 (by omega)
  refine ⟨⟨by rw [List.length_map, hk], by rw [List.length_map, hk], ?_, ?_, by unfold Sm; omega, F + e * S fa ix, F + e' * S fb ix, ix.map fun i => d * (((k : Int) * fa i - S fa ix) * ((k : Int) * fb i - S fb ix)), ?_, ?_, ?_, ?_, ?_, ?_, by rw [List.length_map, hk], ?_, ?_, hsum⟩, by omega⟩
  · have := sumA_le (B := 2 ^ 45) (ix.map fun i => F + 3840 * fa i) fun x hx => by
      obtain ⟨i, _, rfl⟩ := List.mem_map.mp hx
      exact bm i
    rw [List.length_map, hk] at this
    have := Nat.mul_le_mul_right (2 ^ 45) h16
    omega
  · have := sumA_le (B := 2 ^ 45) (ix.map fun i => F + 245760 * fb i) fun x hx => by
      obtain ⟨i, _, rfl⟩ := List.mem_map.mp hx
      exact bk i
    rw [List.length_map, hk] at this
    have := Nat.mul_le_mul_right (2 ^ 45) h16
    omega
  · have := s_lin F 3840 fa ix
    rw [hk] at this
    refine this.trans ?_
    generalize S fa ix = SA
    grind
  · have := s_lin F 245760 fb ix
    rw [hk] at this
    refine this.trans ?_
    generalize S fb ix = SB
    grind
  · unfold Sm; omega
  · unfold Sm; omega
  · intro m hm
    obtain ⟨i, _, rfl⟩ := List.mem_map.mp hm
    have := bm i
    unfold Sm; omega
  · intro m hm
    obtain ⟨i, _, rfl⟩ := List.mem_map.mp hm
    have := bk i
    unfold Sm; omega
  · intro i m q cc hm hq hc
    rw [List.getElem?_map] at hm hq hc
    cases hi : ix[i]? with
    | none => rw [hi] at hm; cases hm
    | some j =>
      rw [hi] at hm hq hc
      cases hm; cases hq; cases hc
      dsimp only
      generalize S fa ix = SA
      generalize S fb ix = SB
      have e1 : F + 3840 * fa j - (F + e * SA) = e * ((k : Int) * fa j - SA) := by grind
      have e2 : F + 245760 * fb j - (F + e' * SB) = e' * ((k : Int) * fb j - SB) := by grind
      rw [e1, e2]
      have e3 : (2 : Int) ^ 14 = 16384 := by decide
      rw [e3]
      generalize ((k : Int) * fa j - SA) = X
      generalize ((k : Int) * fb j - SB) = Y
      have e4 : e * X * (e' * Y) = (e * e') * (X * Y) := by ac_rfl
      rw [e4, h3]
      ac_rfl
  · have := sumA_le (B := 2 ^ 38) (ix.map fun i => d * (((k : Int) * fa i - S fa ix) * ((k : Int) * fb i - S fb ix))) fun x hx => by
      obtain ⟨i, _, rfl⟩ := List.mem_map.mp hx
      exact bc i
    rw [List.length_map, hk] at this
    have := Nat.mul_le_mul_right (2 ^ 38) h16
    omega

theorem covM_of {ix : List Nat} {fa fb : Nat → Int} {F : Int} (hk : ix.length = 2 ∨ ix.length = 3 ∨ ix.length = 4 ∨ ix.length = 5 ∨ ix.length = 6 ∨ ix.length = 16) (ha : ∀ i, (fa i).natAbs ≤ 1023) (hb : ∀ i, (fb i).natAbs ≤ 1023) (hF : F.natAbs ≤ 2 ^ 44) :
    CovM (ix.map fun i => F + 3840 * fa i) (ix.map fun i => F + 245760 * fb i) ix.length (cvv fa fb ix) ∧ (cvv fa fb ix).natAbs ≤ 2 ^ 40 := by
  unfold cvv
  rcases hk with h | h | h | h | h | h
  · rw [h]; exact covM_gen (e := 1920) (e' := 122880) (d := 14400) (c := cK 2) h (by decide) (by decide) (by decide) (by decide) (by decide) (by decide) (by decide) (by decide) (by decide) (by decide) ha hb hF
  · rw [h]; exact covM_gen (e := 1280) (e' := 81920) (d := 6400) (c := cK 3) h (by decide) (by decide) (by decide) (by decide) (by decide) (by decide) (by decide) (by decide) (by decide) (by decide) ha hb hF
  · rw [h]; exact covM_gen (e := 960) (e' := 61440) (d := 3600) (c := cK 4) h (by decide) (by decide) (by decide) (by decide) (by decide) (by decide) (by decide) (by decide) (by decide) (by decide) ha hb hF
  · rw [h]; exact covM_gen (e := 768) (e' := 49152) (d := 2304) (c := cK 5) h (by decide) (by decide) (by decide) (by decide) (by decide) (by decide) (by decide) (by decide) (by decide) (by decide) ha hb hF
  · rw [h]; exact covM_gen (e := 640) (e' := 40960) (d := 1600) (c := cK 6) h (by decide) (by decide) (by decide) (by decide) (by decide) (by decide) (by decide) (by decide) (by decide) (by decide) ha hb hF
  · rw [h]; exact covM_gen (e := 240) (e' := 15360) (d := 225) (c := cK 16) h (by decide) (by decide) (by decide) (by decide) (by decide) (by decide) (by decide) (by decide) (by decide) (by decide) ha hb hF
end Mine
end
theorem Mine.anewP2 : True := by
  w_top off
  exact trivial
section
set_option Elab.async false
set_option maxRecDepth 100000
set_option linter.unusedVariables false
open PySem PySem.Float64
namespace Mine
theorem size_3_2 (fa fb : Nat → Int) : sumI (((samples 3).filter fun ix => ix.length == 2).map (cvv fa fb)) = ((samples 3).filter fun ix => ix.length == 2).length * cvv fa fb (List.range 3) := by
  have h : ((samples 3).filter fun ix => ix.length == 2) = [[0, 1], [0, 2], [1, 2]] := by decide +kernel
  rw [h]
  have hr : List.range 3 = [0, 1, 2] := by decide
  rw [hr]
  have k3 : cK 2 = 28800 := by decide
  have k6 : cK 3 = 9600 := by decide
  simp only [List.map_cons, List.map_nil, cvv, S, sumI, List.foldr_cons, List.foldr_nil, List.length_cons, List.length_nil, Nat.zero_add, Nat.reduceAdd, k3, k6]
  generalize fa 0 = a0
  generalize fa 1 = a1
  generalize fa 2 = a2
  generalize fb 0 = b0
  generalize fb 1 = b1
  generalize fb 2 = b2
  grind
theorem size_4_2 (fa fb : Nat → Int) : sumI (((samples 4).filter fun ix => ix.length == 2).map (cvv fa fb)) = ((samples 4).filter fun ix => ix.length == 2).length * cvv fa fb (List.range 4) := by
  have h : ((samples 4).filter fun ix => ix.length == 2) = [[0, 1], [0, 2], [1, 2], [0, 3], [1, 3], [2, 3]] := by decide +kernel
  rw [h]
  have hr : List.range 4 = [0, 1, 2, 3] := by decide
  rw [hr]
  have k3 : cK 2 = 28800 := by decide
  have k6 : cK 4 = 4800 := by decide
  simp only [List.map_cons, List.map_nil, cvv, S, sumI, List.foldr_cons, List.foldr_nil, List.length_cons, List.length_nil, Nat.zero_add, Nat.reduceAdd, k3, k6]
  generalize fa 0 = a0
  generalize fa 1 = a1
  generalize fa 2 = a2
  generalize fa 3 = a3
  generalize fb 0 = b0
  generalize fb 1 = b1
  generalize fb 2 = b2
  generalize fb 3 = b3
  grind
theorem size_4_3 (fa fb : Nat → Int) : sumI (((samples 4).filter fun ix => ix.length == 3).map (cvv fa fb)) = ((samples 4).filter fun ix => ix.length == 3).length * cvv fa fb (List.range 4) := by
  have h : ((samples 4).filter fun ix => ix.length == 3) = [[0, 1, 2], [0, 1, 3], [0, 2, 3], [1, 2, 3]] := by decide +kernel
  rw [h]
  have hr : List.range 4 = [0, 1, 2, 3] := by decide
  rw [hr]
  have k3 : cK 3 = 9600 := by decide
  have k6 : cK 4 = 4800 := by decide
  simp only [List.map_cons, List.map_nil, cvv, S, sumI, List.foldr_cons, List.foldr_nil, List.length_cons, List.length_nil, Nat.zero_add, Nat.reduceAdd, k3, k6]
  generalize fa 0 = a0
  generalize fa 1 = a1
  generalize fa 2 = a2
  generalize fa 3 = a3
  generalize fb 0 = b0
  generalize fb 1 = b1
  generalize fb 2 = b2
  generalize fb 3 = b3
  grind
theorem size_5_2 (fa fb : Nat → Int) : sumI (((samples 5).filter fun ix => ix.length == 2).map (cvv fa fb)) = ((samples 5).filter fun ix => ix.length == 2).length * cvv fa fb (List.range 5) := by
  have h : ((samples 5).filter fun ix => ix.length == 2) = [[0, 1], [0, 2], [1, 2], [0, 3], [1, 3], [2, 3], [0, 4], [1, 4], [2, 4], [3, 4]] := by decide +kernel
  rw [h]
  have hr : List.range 5 = [0, 1, 2, 3, 4] := by decide
  rw [hr]
  have k3 : cK 2 = 28800 := by decide
  have k6 : cK 5 = 2880 := by decide
  simp only [List.map_cons, List.map_nil, cvv, S, sumI, List.foldr_cons, List.foldr_nil, List.length_cons, List.length_nil, Nat.zero_add, Nat.reduceAdd, k3, k6]
  generalize fa 0 = a0
  generalize fa 1 = a1
  generalize fa 2 = a2
  generalize fa 3 = a3
  generalize fa 4 = a4
  generalize fb 0 = b0
  generalize fb 1 = b1
  generalize fb 2 = b2
  generalize fb 3 = b3
  generalize fb 4 = b4
  grind
theorem size_5_3 (fa fb : Nat → Int) : sumI (((samples 5).filter fun ix => ix.length == 3).map (cvv fa fb)) = ((samples 5).filter fun ix => ix.length == 3).length * cvv fa fb (List.range 5) := by
  have h : ((samples 5).filter fun ix => ix.length == 3) = [[0, 1, 2], [0, 1, 3], [0, 2, 3], [1, 2, 3], [0, 1, 4], [0, 2, 4], [1, 2, 4], [0, 3, 4], [1, 3, 4], [2, 3, 4]] := by decide +kernel
  rw [h]
  have hr : List.range 5 = [0, 1, 2, 3, 4] := by decide
  rw [hr]
  have k3 : cK 3 = 9600 := by decide
  have k6 : cK 5 = 2880 := by decide
  simp only [List.map_cons, List.map_nil, cvv, S, sumI, List.foldr_cons, List.foldr_nil, List.length_cons, List.length_nil, Nat.zero_add, Nat.reduceAdd, k3, k6]
  generalize fa 0 = a0
  generalize fa 1 = a1
  generalize fa 2 = a2
  generalize fa 3 = a3
  generalize fa 4 = a4
  generalize fb 0 = b0
  generalize fb 1 = b1
  generalize fb 2 = b2
  generalize fb 3 = b3
  generalize fb 4 = b4
  grind
theorem size_5_4 (fa fb : Nat → Int) : sumI (((samples 5).filter fun ix => ix.length == 4).map (cvv fa fb)) = ((samples 5).filter fun ix => ix.length == 4).length * cvv fa fb (List.range 5) := by
  have h : ((samples 5).filter fun ix => ix.length == 4) = [[0, 1, 2, 3], [0, 1, 2, 4], [0, 1, 3, 4], [0, 2, 3, 4], [1, 2, 3, 4]] := by decide +kernel
  rw [h]
  have hr : List.range 5 = [0, 1, 2, 3, 4] := by decide
  rw [hr]
  have k3 : cK 4 = 4800 := by decide
  have k6 : cK 5 = 2880 := by decide
  simp only [List.map_cons, List.map_nil, cvv, S, sumI, List.foldr_cons, List.foldr_nil, List.length_cons, List.length_nil, Nat.zero_add, Nat.reduceAdd, k3, k6]
  generalize fa 0 = a0
  generalize fa 1 = a1
  generalize fa 2 = a2
  generalize fa 3 = a3
  generalize fa 4 = a4
  generalize fb 0 = b0
  generalize fb 1 = b1
  generalize fb 2 = b2
  generalize fb 3 = b3
  generalize fb 4 = b4
  grind
theorem size_6_2 (fa fb : Nat → Int) : sumI (((samples 6).filter fun ix => ix.length == 2).map (cvv fa fb)) = ((samples 6).filter fun ix => ix.length == 2).length * cvv fa fb (List.range 6) := by
  have h : ((samples 6).filter fun ix => ix.length == 2) = [[0, 1], [0, 2], [1, 2], [0, 3], [1, 3], [2, 3], [0, 4], [1, 4], [2, 4], [3, 4], [0, 5], [1, 5], [2, 5], [3, 5], [4, 5]] := by decide +kernel
  rw [h]
  have hr : List.range 6 = [0, 1, 2, 3, 4, 5] := by decide
  rw [hr]
  have k3 : cK 2 = 28800 := by decide
  have k6 : cK 6 = 1920 := by decide
  simp only [List.map_cons, List.map_nil, cvv, S, sumI, List.foldr_cons, List.foldr_nil, List.length_cons, List.length_nil, Nat.zero_add, Nat.reduceAdd, k3, k6]
  generalize fa 0 = a0
  generalize fa 1 = a1
  generalize fa 2 = a2
  generalize fa 3 = a3
  generalize fa 4 = a4
  generalize fa 5 = a5
  generalize fb 0 = b0
  generalize fb 1 = b1
  generalize fb 2 = b2
  generalize fb 3 = b3
  generalize fb 4 = b4
  generalize fb 5 = b5
  grind
theorem size_6_3 (fa fb : Nat → Int) : sumI (((samples 6).filter fun ix => ix.length == 3).map (cvv fa fb)) = ((samples 6).filter fun ix => ix.length == 3).length * cvv fa fb (List.range 6) := by
  have h : ((samples 6).filter fun ix => ix.length == 3) = [[0, 1, 2], [0, 1, 3], [0, 2, 3], [1, 2, 3], [0, 1, 4], [0, 2, 4], [1, 2, 4], [0, 3, 4], [1, 3, 4], [2, 3, 4], [0, 1, 5], [0, 2, 5], [1, 2, 5], [0, 3, 5], [1, 3, 5], [2, 3, 5], [0, 4, 5], [1, 4, 5], [2, 4, 5], [3, 4, 5]] := by decide +kernel
  rw [h]
  have hr : List.range 6 = [0, 1, 2, 3, 4, 5] := by decide
  rw [hr]
  have k3 : cK 3 = 9600 := by decide
  have k6 : cK 6 = 1920 := by decide
  simp only [List.map_cons, List.map_nil, cvv, S, sumI, List.foldr_cons, List.foldr_nil, List.length_cons, List.length_nil, Nat.zero_add, Nat.reduceAdd, k3, k6]
  generalize fa 0 = a0
  generalize fa 1 = a1
  generalize fa 2 = a2
  generalize fa 3 = a3
  generalize fa 4 = a4
  generalize fa 5 = a5
  generalize fb 0 = b0
  generalize fb 1 = b1
  generalize fb 2 = b2
  generalize fb 3 = b3
  generalize fb 4 = b4
  generalize fb 5 = b5
  grind
theorem size_6_4 (fa fb : Nat → Int) : sumI (((samples 6).filter fun ix => ix.length == 4).map (cvv fa fb)) = ((samples 6).filter fun ix => ix.length == 4).length * cvv fa fb (List.range 6) := by
  have h : ((samples 6).filter fun ix => ix.length == 4) = [[0, 1, 2, 3], [0, 1, 2, 4], [0, 1, 3, 4], [0, 2, 3, 4], [1, 2, 3, 4], [0, 1, 2, 5], [0, 1, 3, 5], [0, 2, 3, 5], [1, 2, 3, 5], [0, 1, 4, 5], [0, 2, 4, 5], [1, 2, 4, 5], [0, 3, 4, 5], [1, 3, 4, 5], [2, 3, 4, 5]] := by decide +kernel
  rw [h]
  have hr : List.range 6 = [0, 1, 2, 3, 4, 5] := by decide
  rw [hr]
  have k3 : cK 4 = 4800 := by decide
  have k6 : cK 6 = 1920 := by decide
  simp only [List.map_cons, List.map_nil, cvv, S, sumI, List.foldr_cons, List.foldr_nil, List.length_cons, List.length_nil, Nat.zero_add, Nat.reduceAdd, k3, k6]
  generalize fa 0 = a0
  generalize fa 1 = a1
  generalize fa 2 = a2
  generalize fa 3 = a3
  generalize fa 4 = a4
  generalize fa 5 = a5
  generalize fb 0 = b0
  generalize fb 1 = b1
  generalize fb 2 = b2
  generalize fb 3 = b3
  generalize fb 4 = b4
  generalize fb 5 = b5
  grind
theorem size_6_5 (fa fb : Nat → Int) : sumI (((samples 6).filter fun ix => ix.length == 5).map (cvv fa fb)) = ((samples 6).filter fun ix => ix.length == 5).length * cvv fa fb (List.range 6) := by
  have h : ((samples 6).filter fun ix => ix.length == 5) = [[0, 1, 2, 3, 4], [0, 1, 2, 3, 5], [0, 1, 2, 4, 5], [0, 1, 3, 4, 5], [0, 2, 3, 4, 5], [1, 2, 3, 4, 5]] := by decide +kernel
  rw [h]
  have hr : List.range 6 = [0, 1, 2, 3, 4, 5] := by decide
  rw [hr]
  have k3 : cK 5 = 2880 := by decide
  have k6 : cK 6 = 1920 := by decide
  simp only [List.map_cons, List.map_nil, cvv, S, sumI, List.foldr_cons, List.foldr_nil, List.length_cons, List.length_nil, Nat.zero_add, Nat.reduceAdd, k3, k6]
  generalize fa 0 = a0
  generalize fa 1 = a1
  generalize fa 2 = a2
  generalize fa 3 = a3
  generalize fa 4 = a4
  generalize fa 5 = a5
  generalize fb 0 = b0
  generalize fb 1 = b1
  generalize fb 2 = b2
  generalize fb 3 = b3
  generalize fb 4 = b4
  generalize fb 5 = b5
  grind

theorem sums_all (fa fb : Nat → Int) {n : Nat} (h6 : n ≤ 6) : ∀ size, 2 ≤ size → size < n → sumI (((samples n).filter fun ix => ix.length == size).map (cvv fa fb)) = ((samples n).filter fun ix => ix.length == size).length * cvv fa fb (List.range n) := by
  intro size h2 hs
  have : (n = 3 ∧ size = 2) ∨ (n = 4 ∧ size = 2) ∨ (n = 4 ∧ size = 3) ∨ (n = 5 ∧ size = 2) ∨ (n = 5 ∧ size = 3) ∨ (n = 5 ∧ size = 4) ∨ (n = 6 ∧ size = 2) ∨ (n = 6 ∧ size = 3) ∨ (n = 6 ∧ size = 4) ∨ (n = 6 ∧ size = 5) := by omega
  rcases this with ⟨rfl, rfl⟩ | ⟨rfl, rfl⟩ | ⟨rfl, rfl⟩ | ⟨rfl, rfl⟩ | ⟨rfl, rfl⟩ | ⟨rfl, rfl⟩ | ⟨rfl, rfl⟩ | ⟨rfl, rfl⟩ | ⟨rfl, rfl⟩ | ⟨rfl, rfl⟩
  · exact size_3_2 fa fb
  · exact size_4_2 fa fb
  · exact size_4_3 fa fb
  · exact size_5_2 fa fb
  · exact size_5_3 fa fb
  · exact size_5_4 fa fb
  · exact size_6_2 fa fb
  · exact size_6_3 fa fb
  · exact size_6_4 fa fb
  · exact size_6_5 fa fb

theorem sumI_append (l1 l2 : List Int) : sumI (l1 ++ l2) = sumI l1 + sumI l2 := by
  induction l1 with
  | nil => simp [sumI]
  | cons x l1 ih =>
    show x + sumI (l1 ++ l2) = x + sumI l1 + sumI l2
    rw [ih, Int.add_assoc]
theorem sumI_flat {α : Type} (f : Nat → List α) (g : α → Int) : ∀ ix : List Nat, sumI ((ix.flatMap f).map g) = S (fun i => sumI ((f i).map g)) ix
  | [] => rfl
  | x :: ix => by
    rw [List.flatMap_cons, List.map_append, sumI_append, sumI_flat f g ix]
    rfl
theorem s4 (fa fb : Nat → Int) (c0 c1 c2 c3 : Int) : ∀ ix : List Nat, S (fun i => c0 + c1 * fa i + c2 * fb i + c3 * (fa i * fb i)) ix = (ix.length : Int) * c0 + c1 * S fa ix + c2 * S fb ix + c3 * S (fun i => fa i * fb i) ix
  | [] => by simp [S, sumI]
  | x :: ix => by
    have ih := s4 fa fb c0 c1 c2 c3 ix
    show c0 + c1 * fa x + c2 * fb x + c3 * (fa x * fb x) + S (fun i => c0 + c1 * fa i + c2 * fb i + c3 * (fa i * fb i)) ix = ((ix.length + 1 : Nat) : Int) * c0 + c1 * (fa x + S fa ix) + c2 * (fb x + S fb ix) + c3 * (fa x * fb x + S (fun i => fa i * fb i) ix)
    rw [ih]
    generalize S fa ix = SA
    generalize S fb ix = SB
    generalize S (fun i => fa i * fb i) ix = SU
    generalize fa x = A
    generalize fb x = B
    grind
theorem s_congr {f g : Nat → Int} (h : ∀ i, f i = g i) (ix : List Nat) : S f ix = S g ix := by
  have : f = g := funext h
  rw [this]
theorem cv_rep4 (fa fb : Nat → Int) (i j k : Nat) : cvv fa fb (rep4 i j k) = 240 * (64 * (fa i * fb i + fa j * fb j + 2 * (fa k * fb k)) - 16 * ((fa i + fa j + 2 * fa k) * (fb i + fb j + 2 * fb k))) := by
  have k16 : cK 16 = 240 := by decide
  simp only [cvv, rep4, S, List.map_cons, List.map_nil, sumI, List.foldr_cons, List.foldr_nil, List.length_cons, List.length_nil, Nat.zero_add, Nat.reduceAdd, k16]
  generalize fa i = a0
  generalize fa j = a1
  generalize fa k = a2
  generalize fb i = b0
  generalize fb j = b1
  generalize fb k = b2
  grind
theorem draws_all (fa fb : Nat → Int) {n : Nat} (h2 : 2 ≤ n) (h6 : n ≤ 6) : 2 * (n : Int) * n * (n - 1) * cvv fa fb (List.range n) = 3 * sumI ((triples n).map (cvv fa fb)) := by
  have hl : (List.range n).length = n := List.length_range
  have e3 : ∀ i j, sumI ((rows2 n i j).map (cvv fa fb)) = (n : Int) * (240 * (64 * (fa i * fb i + fa j * fb j) - 16 * ((fa i + fa j) * (fb i + fb j)))) + (240 * (- 32 * (fb i + fb j))) * S fa (List.range n) + (240 * (- 32 * (fa i + fa j))) * S fb (List.range n) + (240 * 64) * S (fun i => fa i * fb i) (List.range n) := fun i j => by
    have h := s4 fa fb (240 * (64 * (fa i * fb i + fa j * fb j) - 16 * ((fa i + fa j) * (fb i + fb j)))) (240 * (- 32 * (fb i + fb j))) (240 * (- 32 * (fa i + fa j))) (240 * 64) (List.range n)
    rw [hl] at h
    rw [← h]
    unfold rows2
    rw [List.map_map]
    refine s_congr (fun k => ?_) _
    show cvv fa fb (rep4 i j k) = _
    rw [cv_rep4]
    generalize fa i = a0
    generalize fa j = a1
    generalize fa k = a2
    generalize fb i = b0
    generalize fb j = b1
    generalize fb k = b2
    grind
  generalize hA : S fa (List.range n) = SA at *
  generalize hB : S fb (List.range n) = SB at *
  generalize hU : S (fun i => fa i * fb i) (List.range n) = SU at *
  have e2 : ∀ i, sumI ((rows1 n i).map (cvv fa fb)) = (n : Int) * ((n : Int) * (240 * (48 * (fa i * fb i))) + 240 * (- 32 * fb i) * SA + 240 * (- 32 * fa i) * SB + 240 * 64 * SU) + ((n : Int) * (240 * (- 16 * fb i)) + 240 * (-32) * SB) * SA + ((n : Int) * (240 * (- 16 * fa i)) + 240 * (-32) * SA) * SB + ((n : Int) * (240 * 48)) * SU := fun i => by
    have h := s4 fa fb ((n : Int) * (240 * (48 * (fa i * fb i))) + 240 * (- 32 * fb i) * SA + 240 * (- 32 * fa i) * SB + 240 * 64 * SU) ((n : Int) * (240 * (- 16 * fb i)) + 240 * (-32) * SB) ((n : Int) * (240 * (- 16 * fa i)) + 240 * (-32) * SA) ((n : Int) * (240 * 48)) (List.range n)
    rw [hl, hA, hB, hU] at h
    rw [← h]
    unfold rows1
    rw [sumI_flat]
    refine s_congr (fun j => ?_) _
    rw [e3]
    generalize fa i = a0
    generalize fa j = a1
    generalize fb i = b0
    generalize fb j = b1
    grind
  have e1 : sumI ((triples n).map (cvv fa fb)) = 38400 * (n : Int) * ((n : Int) * SU - SA * SB) := by
    unfold triples
    rw [sumI_flat]
    have h := s4 fa fb ((n : Int) * (240 * 64 * SU) + 240 * (-32) * SB * SA + 240 * (-32) * SA * SB + (n : Int) * (240 * 48) * SU) ((n : Int) * (240 * (-48)) * SB) ((n : Int) * (240 * (-48)) * SA) ((n : Int) * ((n : Int) * (240 * 48))) (List.range n)
    rw [hl, hA, hB, hU] at h
    refine Eq.trans (s_congr (fun i => ?_) _) (h.trans ?_)
    · rw [e2]
      generalize fa i = a0
      generalize fb i = b0
      grind
    · grind
  rw [e1]
  unfold cvv
  rw [hl, hA, hB, hU]
  have : n = 2 ∨ n = 3 ∨ n = 4 ∨ n = 5 ∨ n = 6 := by omega
  rcases this with rfl | rfl | rfl | rfl | rfl
  · rw [show cK 2 = 28800 from by decide]; generalize SA * SB = X; omega
  · rw [show cK 3 = 9600 from by decide]; generalize SA * SB = X; omega
  · rw [show cK 4 = 4800 from by decide]; generalize SA * SB = X; omega
  · rw [show cK 5 = 2880 from by decide]; generalize SA * SB = X; omega
  · rw [show cK 6 = 1920 from by decide]; generalize SA * SB = X; omega

/-- the law of a population of n points -/
theorem holdM_of {fa fb : Nat → Int} {F : Int} {n : Nat} (h2 : 2 ≤ n) (h6 : n ≤ 6) (ha : ∀ i, (fa i).natAbs ≤ 1023) (hb : ∀ i, (fb i).natAbs ≤ 1023) (hF : F.natAbs ≤ 2 ^ 44) :
    HoldM ((List.range n).map fun i => F + 3840 * fa i) ((List.range n).map fun i => F + 245760 * fb i) n (cvv fa fb) := by
  have gm : ∀ k, k < n → ((List.range n).map fun i => F + 3840 * fa i).getD k 0 = F + 3840 * fa k := fun k hk => by
    simp [List.getD_eq_getElem?_getD, hk]
  have gk : ∀ k, k < n → ((List.range n).map fun i => F + 245760 * fb i).getD k 0 = F + 245760 * fb k := fun k hk => by
    simp [List.getD_eq_getElem?_getD, hk]
  have len : ∀ ix, Good n ix → ix.length = 2 ∨ ix.length = 3 ∨ ix.length = 4 ∨ ix.length = 5 ∨ ix.length = 6 ∨ ix.length = 16 := fun ix hG => by
    rcases hG.2.2 with h | ⟨i, j, k, rfl⟩
    · have := hG.2.1; omega
    · right; right; right; right; right; rfl
  refine ⟨fun ix hG => ?_, fun ix hG => (covM_of (F := F) (len ix hG) ha hb hF).2, sums_all fa fb h6, fun i j hi hj => ?_, draws_all fa fb h2 h6⟩
  · rw [List.map_congr_left fun k hk => gm k (hG.1 k hk), List.map_congr_left fun k hk => gk k (hG.1 k hk)]
    exact (covM_of (len ix hG) ha hb hF).1
  · rw [gm i hi, gm j hj, gk i hi, gk j hj]
    have k2 : cK 2 = 28800 := by decide
    simp only [cvv, S, List.map_cons, List.map_nil, sumI, List.foldr_cons, List.foldr_nil, List.length_cons, List.length_nil, Nat.zero_add, Nat.reduceAdd, k2]
    generalize fa i = a0
    generalize fa j = a1
    generalize fb i = b0
    generalize fb j = b1
    grind
end Mine
end
theorem Mine.anewQ1 : True := by
  w_top off
  exact trivial
section
open PySem PySem.W PySem.Calls PyProof.Rows
set_option Elab.async false
set_option maxRecDepth 100000
set_option maxHeartbeats 4000000
set_option linter.unusedVariables false
namespace Mine
section
variable {prog : Program} {w : World} {A : Around} {E : Value → Shared → Prop} {s : Shared}
/-- a list built item by item out of a list -/
theorem lc_map {env : Env} {x : Str} {elt iter : Expr} {px pos : Pos} {scope : Scope} {cl : List (Str × Addr)} {r : Addr} {rv : List Value} {Q : Value → Shared → Prop} (G : Value → Value → Prop)
    (hA : A.handled = none) (hiter : ∀ Q' : Value → Shared → Prop, Q' (.ref r) s → wpAny (model prog w) A (eval iter env) Q' E s) (hr : s.heap.IsList r rv.toArray) (hlen : rv.length ≤ 1000)
    (helt : ∀ C v s₃ m₃ E', v ∈ rv → s₃.heap.Ns C m₃ → m₃ x = some v → (∀ b o, s.heap.get? b = some o → s₃.heap.get? b = some o) →
      wpAny (model prog w) A (eval elt (compEnvC scope cl C env)) (fun y s₄ => G v y ∧ Keeps s₃ s₄) E' s₃)
    (h : ∀ D h' tk ys, (∀ b o, s.heap.get? b = some o → h'.get? b = some o) → s.heap.get? D = none → h'.IsList D ys.toArray → Paired G rv ys → Q (.ref D) { s with heap := h', toks := tk })
    (hclos : closureFor scope env = pure cl := by rfl) (hcell : ∀ y ∈ scope.names, y.2 ≠ .cell := by decide) (hkind : scope.kind = .function := by rfl)
    (hnames : ∀ y ∈ scope.names, y.2 = .local → scope.names.lookup y.1 = some .local := by decide) (hx : scope.names.lookup x = some .local := by rfl)
    (hs : ∀ x, foldedSetIterable iter env x = pure x := by intro _; rfl) :
    wpAny (model prog w) A (eval (.ListComp elt [⟨.Name x px, iter, [], 0⟩] scope pos) env) Q E s := by
  have hlt : r < s.heap.objs.size := by obtain ⟨_, e, _⟩ := hr; exact Heap.lt_size e
  refine wpAny_ListComp_free (fun _ => true) G hclos hcell hkind hnames hx (hiter _ (wpAny_pyIter_list hr ?_)) hs
  have up : ∀ b o, s.heap.get? b = some o → (s.heap.push { cls := .type "list_iterator", data := .fields #[.ref r, .int 0 0] }).get? b = some o := fun b o e => Heap.get?_push_of_some _ e
  refine ⟨_, [s.heap.objs.size, r], [s.heap.objs.size], rv.toArray.size, _, _, rfl, Walks.list hA s.heap.objs.size r (Nat.ne_of_lt hlt) rv.toArray, ?_, ⟨⟨_, Heap.get?_push_size _ rfl, rfl, rfl⟩, hr.push _⟩, ?_, ⟨?_, ?_⟩, ?_⟩
  · refine Nat.le_trans (?_ : rv.toArray.size ≤ 1000) (by decide)
    simp only [List.size_toArray]; omega
  · intro b hb
    show b < (s.heap.push _).objs.size
    rw [Heap.size_push]
    rcases List.mem_cons.mp hb with rfl | hb
    · exact Nat.lt_succ_self _
    · rw [List.mem_singleton.mp hb]; exact Nat.lt_succ_of_lt hlt
  · intro C i v s₃ m₃ E' hC hP hn hm hk ht
    exact wpAny_tests_nil ⟨rfl, ⟨_, _, rfl, fun _ _ e => e⟩⟩
  · intro C i v s₃ m₃ E' hC hP _ hn hm hk ht
    have hv : v ∈ rv := List.mem_of_getElem? (i := i) (by simpa using hP)
    have old : ∀ b o, s.heap.get? b = some o → s₃.heap.get? b = some o := fun b o e => hk b o (fun q => by
      rw [List.mem_singleton.mp q] at e
      exact Nat.lt_irrefl _ (Heap.lt_size e)) (up b o e)
    exact helt C v s₃ m₃ _ hv hn hm old
  · intro D h' tk ys vs' hD hy _ hvl' hP hF hk
    have e : vs' = rv := by
      apply List.ext_getElem?
      intro j
      cases hj : vs'[j]? with
      | none =>
        have : vs'.length ≤ j := List.getElem?_eq_none_iff.mp hj
        exact (List.getElem?_eq_none_iff.mpr (by simp at hvl'; omega)).symm
      | some v => exact (by simpa using (hP j v hj).symm)
    subst e
    rw [show vs'.filter (fun _ => true) = vs' from by simp] at hF
    refine h D h' tk ys.toList (fun b o e => hk b o (fun q => by
      rw [List.mem_singleton.mp q] at e
      exact Nat.lt_irrefl _ (Heap.lt_size e)) (up b o e)) ?_ (by simpa using hy) hF
    cases z : s.heap.get? D with
    | none => rfl
    | some o => rw [up _ _ z] at hD; cases hD
/-- an item of x: a whole number in 64ths, and a whole number further along -/
theorem elt_x {env : Env} {X x : Str} {kc : Nat} {p1 p2 p3 p4 p5 : Pos} {scope : Scope} {cl : List (Str × Addr)} {c C : Addr} {m₃ : Str → Option Value} {o : Obj} {n f : Int} {t u : Tok} {G : Value → Value → Prop}
    (hA : A.handled = none) (hn : s.heap.Ns C m₃) (hm : m₃ x = some (.int n t)) (ho : s.heap.get? c = some o) (hd : o.data = .cell (some (.int f u))) (h1 : Sm (n * 2 ^ 8)) (h2 : Sm (f * 2 ^ 14)) (h3 : Sm (n * 2 ^ 8 + f * 2 ^ 14))
    (hG : ∀ r tk, Ex r (n * 2 ^ 8 + f * 2 ^ 14) → G (.int n t) (.float r tk))
    (hcl : cl.lookup X = some c) (hkX : (relabel scope env).names.lookup X = some .cell) (hkind : scope.kind = .function) (hx : scope.names.lookup x = some .local) (hb1 : (x == ("__debug__" : Str)) = false) (hb2 : (X == ("__debug__" : Str)) = false) :
    wpAny (model prog w) A (eval (.BinOp (.BinOp (.Name x p1) .Div (.Constant (.int 64) kc p2) p3) .Add (.Name X p4) p5) (compEnvC scope cl C env)) (fun y s₄ => G (.int n t) y ∧ Keeps s s₄) E s := by
  refine wpAny_BinOp (wpAny_BinOp (wpAny_Name (wpAny_loadName_local (by simp [compEnvC, relabel, hkind]) (lookup_relabel_local hx) hn hm (wpAny_Constant_int ?_)) hb1))
  refine ox_div_ii (k := 6) hA h1 (by decide) ?_
  intro r tk hr
  refine wpAny_Name (wpAny_loadName_cell (by simp [compEnvC, relabel, hkind]) hkX hcl ⟨o, ho, hd⟩ ?_) hb2
  refine ox_add_fi hA hr h2 h3 ?_
  intro r2 tk2 hr2
  exact ⟨hG _ _ hr2, _, _, rfl, fun _ _ e => e⟩
/-- an item of y -/
theorem elt_y {env : Env} {X x : Str} {p1 p4 p5 : Pos} {scope : Scope} {cl : List (Str × Addr)} {c C : Addr} {m₃ : Str → Option Value} {o : Obj} {n f : Int} {t u : Tok} {G : Value → Value → Prop}
    (hn : s.heap.Ns C m₃) (hm : m₃ x = some (.int n t)) (ho : s.heap.get? c = some o) (hd : o.data = .cell (some (.int f u)))
    (hG : ∀ tk, G (.int n t) (.int (n + f) tk))
    (hcl : cl.lookup X = some c) (hkX : (relabel scope env).names.lookup X = some .cell) (hkind : scope.kind = .function) (hx : scope.names.lookup x = some .local) (hb1 : (x == ("__debug__" : Str)) = false) (hb2 : (X == ("__debug__" : Str)) = false) :
    wpAny (model prog w) A (eval (.BinOp (.Name x p1) .Add (.Name X p4) p5) (compEnvC scope cl C env)) (fun y s₄ => G (.int n t) y ∧ Keeps s s₄) E s := by
  refine wpAny_BinOp (wpAny_Name (wpAny_loadName_local (by simp [compEnvC, relabel, hkind]) (lookup_relabel_local hx) hn hm ?_) hb1)
  refine wpAny_Name (wpAny_loadName_cell (by simp [compEnvC, relabel, hkind]) hkX hcl ⟨o, ho, hd⟩ ?_) hb2
  refine add_int ?_
  exact ⟨hG _, _, _, rfl, fun _ _ e => e⟩
end
end Mine
end
theorem Mine.anewQ2 : True := by
  w_top off
  exact trivial
section
open PySem PySem.W PySem.Calls PyProof.Rows
set_option Elab.async false
set_option maxRecDepth 100000
set_option maxHeartbeats 4000000
set_option linter.unusedVariables false
namespace Mine
section
variable {prog : Program} {w : World} {A : Around} {E : Value → Shared → Prop} {s : Shared}
theorem for_rngC {env : Env} {x : Str} {px pos : Pos} {iter : Expr} {body : List Stmt} {a c : Int} {N : Nat} {Q : Flow → Shared → Prop} (hA : A.handled = none)
    (h : wpAny (model prog w) A (eval iter env) (fun xv s₁ => wpAny (model prog w) A (pyIter xv) (fun it s₂ => ∃ I, it = .ref I ∧ ∃ Inv : Nat → Shared → Prop, Inv 0 s₂ ∧ (∀ i s', Inv i s' → IsRangeIter s'.heap I (a + ((i : Nat) : Int) * c) ((N : Int) - ((i : Nat) : Int)) c) ∧
      (∀ i t s' h' tk E', i < N → Inv i s' → IsRangeIter h' I (a + ((i + 1 : Nat) : Int) * c) ((N : Int) - ((i + 1 : Nat) : Int)) c → (∀ b o, b ≠ I → s'.heap.get? b = some o → h'.get? b = some o) →
        wpAny (model prog w) A (storeName env x (.int (a + ((i : Nat) : Int) * c) t)) (fun _ s₂ => wpAny (model prog w) A (execs body env) (fun f s₃ => match f with
          | .next | .cont => Inv (i + 1) s₃
          | .brk => Q .next s₃
          | .ret v => Q (.ret v) s₃) E' s₂) E' { s' with heap := h', toks := tk }) ∧
      (∀ s' h' tk, Inv N s' → (∀ b o, b ≠ I → s'.heap.get? b = some o → h'.get? b = some o) → Q .next { s' with heap := h', toks := tk })) E s₁) E s)
    (hs : ∀ x, foldedSetIterable iter env x = pure x := by intro _; rfl) :
    wpAny (model prog w) A (exec (.For (.Name x px) iter body [] pos) env) Q E s := by
  refine wpAny_For (wpAny_mono h (fun xv s₁ h₁ => wpAny_mono h₁ (fun it s₂ h₂ => ?_) fun _ _ e => e) fun _ _ e => e) hs
  obtain ⟨I, rfl, Inv, h0, hit, hturn, hdone⟩ := h₂
  refine loop_walks (Walks.range (prog := prog) (w := w) (A := A) hA I a c N) Inv (fun i s' hI => hit i s' hI) h0 (fun i v s' h' tk E' hi hI hP hst hk => ?_) (fun s' h' tk hI hk => hdone s' h' tk hI fun b o hb e => hk b o (by simpa using hb) e)
  obtain ⟨t, rfl⟩ := hP
  exact hturn i t s' h' tk E' hi hI hst fun b o hb e => hk b o (by simpa using hb) e
theorem iter_rangeC {r : Addr} {a b c : Int} {t u v : Tok} {N : Nat} {Q : Value → Shared → Prop} (hr : IsRange s.heap r a b c t u v) (hN : Builtin.Range.rangeSize a b c = (N : Int)) (hsm : Builtin.Range.small a b c = true)
    (h : ∀ I h', s.heap.objs.size ≤ I → (∀ b o, s.heap.get? b = some o → h'.get? b = some o) → IsRangeIter h' I (a + ((0 : Nat) : Int) * c) ((N : Int) - ((0 : Nat) : Int)) c → Q (.ref I) { s with heap := h' }) :
    wpAny (model prog w) A (pyIter (.ref r)) Q E s := by
  refine wpAny_pyIter_range hr hsm (h _ _ (Nat.le_refl _) (fun b o e => Heap.get?_push_of_some _ e) ?_)
  rw [hN]
  have e1 : a + ((0 : Nat) : Int) * c = a := by rw [Int.ofNat_zero, Int.zero_mul, Int.add_zero]
  have e2 : (N : Int) - ((0 : Nat) : Int) = N := by omega
  unfold IsRangeIter
  rw [e1, e2]
  exact Heap.get?_push_size _ rfl
/-- a loop over a tuple's items -/
theorem for_tup {env : Env} {x : Str} {px pos : Pos} {iter : Expr} {body : List Stmt} {Q : Flow → Shared → Prop} (hA : A.handled = none)
    (h : wpAny (model prog w) A (eval iter env) (fun xv s₁ => ∃ tp items, xv = .ref tp ∧ s₁.heap.IsTuple tp items ∧ ∀ I h', s₁.heap.objs.size ≤ I → (∀ b o, s₁.heap.get? b = some o → h'.get? b = some o) → h'.IsTupleIter I tp 0 → h'.IsTuple tp items →
      ∃ Inv : Nat → Shared → Prop, Inv 0 { s₁ with heap := h' } ∧ (∀ i s', Inv i s' → s'.heap.IsTupleIter I tp i ∧ s'.heap.IsTuple tp items) ∧
      (∀ i v s' h' tk E', items[i]? = some v → Inv i s' → h'.IsTupleIter I tp (i + 1) → h'.IsTuple tp items → (∀ b o, b ≠ I → s'.heap.get? b = some o → h'.get? b = some o) →
        wpAny (model prog w) A (storeName env x v) (fun _ s₂ => wpAny (model prog w) A (execs body env) (fun f s₃ => match f with
          | .next | .cont => Inv (i + 1) s₃
          | .brk => Q .next s₃
          | .ret v => Q (.ret v) s₃) E' s₂) E' { s' with heap := h', toks := tk }) ∧
      (∀ s' h' tk, Inv items.size s' → (∀ b o, b ≠ I → s'.heap.get? b = some o → h'.get? b = some o) → Q .next { s' with heap := h', toks := tk })) E s)
    (hs : ∀ x, foldedSetIterable iter env x = pure x := by intro _; rfl) :
    wpAny (model prog w) A (exec (.For (.Name x px) iter body [] pos) env) Q E s := by
  refine wpAny_For (wpAny_mono h (fun xv s₁ h₁ => ?_) fun _ _ e => e) hs
  obtain ⟨tp, items, rfl, ht, h₂⟩ := h₁
  have hlt : tp < s₁.heap.objs.size := by obtain ⟨_, e, _⟩ := ht; exact Heap.lt_size e
  have up : ∀ b o, s₁.heap.get? b = some o → (s₁.heap.push { cls := .type "tuple_iterator", data := .fields #[.ref tp, .int 0 0] }).get? b = some o := fun b o e => Heap.get?_push_of_some _ e
  refine wpAny_pyIter_tuple ht ?_
  obtain ⟨Inv, h0, hit, hturn, hdone⟩ := h₂ _ _ (Nat.le_refl _) up ⟨_, Heap.get?_push_size _ rfl, rfl, rfl⟩ (ht.at fun _ e => up _ _ e)
  refine loop_walks (Walks.tuple (prog := prog) (w := w) (A := A) hA s₁.heap.objs.size tp (Nat.ne_of_lt hlt) items) Inv (fun i s' hI => hit i s' hI) h0 (fun i v s' h' tk E' hi hI hP hst hk => ?_) (fun s' h' tk hI hk => hdone s' h' tk hI fun b o hb e => hk b o (by simpa using hb) e)
  exact hturn i v s' h' tk E' hP hI hst.1 hst.2 fun b o hb e => hk b o (by simpa using hb) e
end
/-- the numbers that law works on: each is 15 times a small one -/
def Nums (vs : List Value) : Prop := ∀ v ∈ vs, ∃ (a : Int) (t : Tok), v = .int (15 * a) t ∧ a.natAbs ≤ 1023
theorem clip_small (k : Int) : ∃ a : Int, (if (if k < 0 then -k else k) < 2 ^ Int.toNat 10 then 15 * k else 15 * k.fmod (2 ^ Int.toNat 10)) = 15 * a ∧ a.natAbs ≤ 1023 := by
  have e10 : (2 : Int) ^ Int.toNat 10 = 1024 := by decide
  rw [e10]
  by_cases h : (if k < 0 then -k else k) < 1024
  · rw [if_pos h]; exact ⟨k, rfl, by split at h <;> omega⟩
  · rw [if_neg h]
    refine ⟨_, rfl, ?_⟩
    have h1 := Int.fmod_nonneg_of_pos k (b := 1024) (by decide)
    have h2 := Int.fmod_lt_of_pos k (b := 1024) (by decide)
    omega
theorem nums_of {vs : List Value} : ∀ {ns : List Int}, IntsAre vs (ns.map fun k' => if (if k' < 0 then -k' else k') < 2 ^ Int.toNat 10 then 15 * k' else 15 * k'.fmod (2 ^ Int.toNat 10)) → Nums vs := by
  intro ns h
  generalize hm : (ns.map fun k' : Int => if (if k' < 0 then -k' else k') < 2 ^ Int.toNat 10 then 15 * k' else 15 * k'.fmod (2 ^ Int.toNat 10)) = ms at h
  have hall : ∀ m ∈ ms, ∃ a : Int, m = 15 * a ∧ a.natAbs ≤ 1023 := by
    intro m hm'
    rw [← hm] at hm'
    obtain ⟨k, _, rfl⟩ := List.mem_map.mp hm'
    exact clip_small k
  clear hm
  induction h with
  | nil => intro v hv; cases hv
  | @cons n t vs ns _ ih =>
    intro v hv
    rcases List.mem_cons.mp hv with rfl | hv
    · obtain ⟨a, rfl, ha⟩ := hall n List.mem_cons_self
      exact ⟨a, _, rfl, ha⟩
    · exact ih (fun m hm => hall m (List.mem_cons_of_mem _ hm)) v hv
theorem Nums.as : ∀ {vs : List Value}, Nums vs → ∃ as : List Int, as.length = vs.length ∧ (∀ i : Nat, (as.getD i 0).natAbs ≤ 1023) ∧ IntsAre vs (as.map (15 * ·))
  | [], _ => ⟨[], rfl, fun i => by simp, .nil⟩
  | v :: vs, h => by
    obtain ⟨a, t, rfl, ha⟩ := h v List.mem_cons_self
    obtain ⟨as, h1, h2, h3⟩ := Nums.as (vs := vs) fun v hv => h v (List.mem_cons_of_mem _ hv)
    refine ⟨a :: as, by simp [h1], fun i => ?_, .cons _ _ h3⟩
    cases i with
    | zero => simpa using ha
    | succ i => simpa using h2 i
theorem fm_length {α β : Type} {f : α → Option β} : ∀ {l : List α}, (∀ x ∈ l, (f x).isSome) → (l.filterMap f).length = l.length
  | [], _ => rfl
  | x :: l, h => by
    have hx := h x List.mem_cons_self
    have ih := fm_length (f := f) (l := l) fun y hy => h y (List.mem_cons_of_mem _ hy)
    cases e : f x with
    | none => rw [e] at hx; cases hx
    | some y => simp [e, ih]
theorem slice_len {items : Array Value} {lo hi st : Option Int} {a b c : Int} (h : sliceBounds lo hi st items.size = (a, b, c)) (ha : 0 ≤ a) (hb : b ≤ items.size) (hc : 0 < c) :
    (slicePick items lo hi st).toList.length = (if a < b then (b - a + c - 1) / c else 0).toNat := by
  unfold slicePick
  rw [h]
  dsimp only
  rw [fm_length]
  · unfold sliceRange
    rw [if_pos hc]
    simp
  · intro x hx
    unfold sliceRange at hx
    rw [if_pos hc] at hx
    obtain ⟨k, hk, rfl⟩ := List.mem_map.mp hx
    have hk := List.mem_range.mp hk
    by_cases hab : a < b
    · rw [if_pos hab] at hk
      have hd : 0 ≤ (b - a + c - 1) / c := Int.ediv_nonneg (by omega) (by omega)
      have hk2 : (k : Int) + 1 ≤ (b - a + c - 1) / c := by omega
      have hk3 : ((k : Int) + 1) * c ≤ b - a + c - 1 := Int.le_trans (Int.mul_le_mul_of_nonneg_right hk2 (by omega)) (Int.ediv_mul_le _ (by omega))
      have hk4 : c * (k : Int) < b - a := by
        rw [Int.add_mul, Int.one_mul, Int.mul_comm] at hk3
        omega
      have hk5 : 0 ≤ c * (k : Int) := Int.mul_nonneg (by omega) (by omega)
      have : (a + c * (k : Int)).toNat < items.size := by omega
      simp [this]
    · rw [if_neg hab] at hk
      simp at hk
theorem nums_slice {vs : List Value} (h : Nums vs) (lo hi st : Option Int) : Nums (slicePick vs.toArray lo hi st).toList := by
  intro v hv
  unfold slicePick at hv
  obtain ⟨k, _, hk⟩ := List.mem_filterMap.mp hv
  exact h v (List.mem_of_getElem? (i := k) (by simpa using hk))
theorem len_2 {items : Array Value} {a b : Nat} : (slicePick items (some (a : Int)) (some (b : Int)) (some 2)).toList.length = (min b items.size - min a items.size + 1) / 2 := by
  have e : sliceBounds (some (a : Int)) (some (b : Int)) (some 2) items.size = (((min a items.size : Nat) : Int), ((min b items.size : Nat) : Int), 2) := by
    simp only [sliceBounds, Option.getD_some]
    have h1 : ¬ ((a : Int) < 0) := by omega
    have h2 : ¬ ((b : Int) < 0) := by omega
    simp only [h1, h2, if_false, show (2 : Int) > 0 by decide, if_true]
    congr 1
    · omega
    · congr 1; omega
  rw [slice_len e (by omega) (by omega) (by decide)]
  split <;> omega
theorem len_to {items : Array Value} {b : Nat} : (slicePick items none (some (b : Int)) none).toList.length = min b items.size := by
  have e : sliceBounds none (some (b : Int)) none items.size = ((0 : Int), ((min b items.size : Nat) : Int), 1) := by
    simp only [sliceBounds, Option.getD_none]
    have h2 : ¬ ((b : Int) < 0) := by omega
    simp only [h2, if_false, show (1 : Int) > 0 by decide, if_true]
    congr 1
    congr 1; omega
  rw [slice_len e (by omega) (by omega) (by decide)]
  split <;> omega
/-- an item of x, an item of y -/
def Gx (f : Int) (v y : Value) : Prop := ∃ (n : Int) (t : Tok) (r : UInt64) (tk : Tok), v = .int n t ∧ y = .float r tk ∧ Ex r (n * 2 ^ 8 + f * 2 ^ 14)
def Gy (f : Int) (v y : Value) : Prop := ∃ (n : Int) (t : Tok) (tk : Tok), v = .int n t ∧ y = .int (n + f) tk
theorem vx_cons {v : Value} {vs : List Value} {u : Nm} {us : List Nm} {m : Int} {ms : List Int} (hv : NmIs v u) (hx : Nx u m) (h : VxAre vs us ms) : VxAre (v :: vs) (u :: us) (m :: ms) := by
  obtain ⟨⟨h1, h2⟩, h3, h4⟩ := h
  refine ⟨⟨by simp [h1], fun i v' hv' => ?_⟩, by simp [h3], fun i x hx' => ?_⟩
  · cases i with
    | zero => simp at hv'; subst hv'; exact ⟨_, rfl, hv⟩
    | succ i => simp at hv'; simpa using h2 i v' hv'
  · cases i with
    | zero => simp at hx'; subst hx'; exact ⟨_, rfl, hx⟩
    | succ i => simp at hx'; simpa using h4 i x hx'
theorem vx_nil : VxAre [] [] [] := ⟨⟨rfl, fun i v hv => by simp at hv⟩, rfl, fun i x hx => by simp at hx⟩
theorem vx_x {f : Int} {xv ys : List Value} (p : Paired (Gx f) xv ys) : ∀ {as : List Int}, IntsAre xv (as.map (15 * ·)) → ∃ us, VxAre ys us (as.map fun a => f * 2 ^ 14 + 3840 * a) ∧ ∀ u ∈ us, u.isf = true := by
  induction p with
  | nil =>
    intro as h
    cases as with
    | nil => exact ⟨[], vx_nil, fun u hu => by cases hu⟩
    | cons a as => have := IntsAre.length h; simp at this
  | @cons v y xv ys hv _ ih =>
    intro as h
    cases as with
    | nil => have := IntsAre.length h; simp at this
    | cons a as =>
      obtain ⟨n, t, r, tk, rfl, rfl, hr⟩ := hv
      generalize hns : (a :: as).map (15 * ·) = ns at h
      cases h with
      | cons _ _ h' =>
        simp at hns
        obtain ⟨e1, e2⟩ := hns
        subst e1 e2
        obtain ⟨us, h1, h2⟩ := ih h'
        refine ⟨.f r :: us, vx_cons ⟨_, rfl⟩ (show Ex r (f * 2 ^ 14 + 3840 * a) by rw [show f * 2 ^ 14 + 3840 * a = 15 * a * 2 ^ 8 + f * 2 ^ 14 by omega]; exact hr) h1, fun u hu => ?_⟩
        rcases List.mem_cons.mp hu with rfl | hu
        · rfl
        · exact h2 u hu
theorem vx_y {f : Int} {xv ys : List Value} (p : Paired (Gy f) xv ys) : ∀ {as : List Int}, IntsAre xv (as.map (15 * ·)) → ∃ us, VxAre ys us (as.map fun a => f * 2 ^ 14 + 245760 * a) ∧ ∀ u ∈ us, u.isf = false := by
  induction p with
  | nil =>
    intro as h
    cases as with
    | nil => exact ⟨[], vx_nil, fun u hu => by cases hu⟩
    | cons a as => have := IntsAre.length h; simp at this
  | @cons v y xv ys hv _ ih =>
    intro as h
    cases as with
    | nil => have := IntsAre.length h; simp at this
    | cons a as =>
      obtain ⟨n, t, tk, rfl, rfl⟩ := hv
      generalize hns : (a :: as).map (15 * ·) = ns at h
      cases h with
      | cons _ _ h' =>
        simp at hns
        obtain ⟨e1, e2⟩ := hns
        subst e1 e2
        obtain ⟨us, h1, h2⟩ := ih h'
        refine ⟨.i (15 * a + f) :: us, vx_cons ⟨_, rfl⟩ (show f * 2 ^ 14 + 245760 * a = (15 * a + f) * 2 ^ 14 by omega) h1, fun u hu => ?_⟩
        rcases List.mem_cons.mp hu with rfl | hu
        · rfl
        · exact h2 u hu
theorem map_range_of {as : List Int} {g : Int → Int} : as.map g = (List.range as.length).map fun i => g (as.getD i 0) := by
  apply List.ext_getElem?
  intro i
  rw [List.getElem?_map, List.getElem?_map]
  by_cases h : i < as.length
  · rw [List.getElem?_range h]
    simp [List.getD_eq_getElem?_getD, h]
  · rw [List.getElem?_eq_none (by omega), List.getElem?_eq_none (by simp; omega)]
    rfl
end Mine
end
theorem Mine.anewQ3 : True := by
  w_top off
  exact trivial
section
open PySem PySem.W PySem.Calls PyProof.Rows
set_option Elab.async false
set_option maxRecDepth 100000
set_option maxHeartbeats 4000000
set_option linter.unusedVariables false
namespace Mine
abbrev rgC (a l c : Int) : Obj := { cls := .type "range_iterator", dict := none, data := .fields #[rawInt a, rawInt l, rawInt c], slots := #[] }
/-- the turns of law's loop over the places -/
structure LInv (s : Shared) (g : Heap) (L D : Addr) (ys : List Value) (I : Addr) (N : Nat) (i : Nat) (s' : Shared) : Prop where
  drawn : s'.drawn = s.drawn
  os : s'.os = s.os
  bare : GBare s.gens s'.gens
  fr : ∃ m, Fr g L s'.heap m ∧ m "numbers" = some (.ref D)
  news : ∃ ps oF, News g L s'.heap [(I, rgC (0 + ((i : Nat) : Int) * 12) ((N : Int) - ((i : Nat) : Int)) 12), (57, tabObj ps), (L + 1, oF), (D, LCg.lst ys)] ∧ TriplesOk ps.toList ∧ ∃ v, oF.data = .cell v
  ne : I ≠ 57 ∧ I ≠ L + 1 ∧ I ≠ D
theorem LInv.it {s : Shared} {g : Heap} {L D : Addr} {ys : List Value} {I : Addr} {N i : Nat} {s' : Shared} (h : LInv s g L D ys I N i s') : IsRangeIter s'.heap I (0 + ((i : Nat) : Int) * 12) ((N : Int) - ((i : Nat) : Int)) 12 := by
  obtain ⟨_, _, n, _⟩ := h.news
  exact (n _ List.mem_cons_self).1
/-- the turns of its loop over the distances -/
structure MInv (s : Shared) (g : Heap) (L D Dx Dy tp : Addr) (its : Array Value) (base : List (Addr × Obj)) (J : Addr) (i : Nat) (s' : Shared) : Prop where
  drawn : s'.drawn = s.drawn
  os : s'.os = s.os
  bare : GBare s.gens s'.gens
  fr : ∃ m, Fr g L s'.heap m ∧ m "numbers" = some (.ref D) ∧ m "xs" = some (.ref Dx) ∧ m "ys" = some (.ref Dy)
  news : ∃ ps oF oJ, News g L s'.heap ((J, oJ) :: (57, tabObj ps) :: (L + 1, oF) :: base) ∧ TriplesOk ps.toList ∧ ∃ v, oF.data = .cell v
  ne : J ≠ 57 ∧ J ≠ L + 1 ∧ ∀ q ∈ base, q.1 ≠ J
  it : s'.heap.IsTupleIter J tp i
  tup : (tp, ({ cls := .type "tuple", data := .seq its } : Obj)) ∈ base
theorem MInv.tu {s : Shared} {g : Heap} {L D Dx Dy tp : Addr} {its : Array Value} {base : List (Addr × Obj)} {J : Addr} {i : Nat} {s' : Shared} (h : MInv s g L D Dx Dy tp its base J i s') : s'.heap.IsTuple tp its := by
  obtain ⟨_, _, _, n, _⟩ := h.news
  exact ⟨_, (n _ (List.mem_cons_of_mem _ (List.mem_cons_of_mem _ (List.mem_cons_of_mem _ h.tup)))).1, rfl, _, rfl⟩
theorem ne_dat {h : Heap} {a b : Addr} {o o' : Obj} (h1 : h.get? a = some o) (h2 : h.get? b = some o') (hd : o.data ≠ o'.data) : a ≠ b := fun q => by
  rw [q, h2] at h1; cases h1; exact hd rfl
theorem pin1 {m : Str → Option Value} {k1 : Str} {v1 : Value} (h1 : m k1 = some v1) : m = fun y => if y = k1 then some v1 else m y := by
  funext y
  by_cases e : y = k1
  · rw [if_pos e, e, h1]
  · rw [if_neg e]
theorem pin3 {m : Str → Option Value} {k1 k2 k3 : Str} {v1 v2 v3 : Value} (h1 : m k1 = some v1) (h2 : m k2 = some v2) (h3 : m k3 = some v3) : m = fun y => if y = k1 then some v1 else if y = k2 then some v2 else if y = k3 then some v3 else m y := by
  funext y
  by_cases e : y = k1
  · rw [if_pos e, e, h1]
  rw [if_neg e]
  by_cases e2 : y = k2
  · rw [if_pos e2, e2, h2]
  rw [if_neg e2]
  exact congrFun (pin1 h3) y
theorem range_small {a b c : Int} (ha : 0 ≤ a) (hb : b ≤ 1000) (ha2 : a ≤ 1000) (hb2 : 0 ≤ b) (hc : 0 < c) (hc2 : c ≤ 1000) : Builtin.Range.small a b c = true := by
  have hq : 0 ≤ (b - a - 1) / c ∨ ¬ a < b := by
    by_cases h : a < b
    · exact .inl (Int.ediv_nonneg (by omega) (by omega))
    · exact .inr h
  have hq2 : (b - a - 1) / c ≤ 1000 := by
    refine Int.le_trans (Int.ediv_le_of_le_mul hc (b := 1000) ?_) (Int.le_refl _)
    omega
  simp [Builtin.Range.small, Builtin.Range.rangeFitsLong, Builtin.Range.rangeSize]
  have hc' : c > 0 := hc
  simp only [hc', if_true]
  split <;> omega
end Mine
namespace Mine
theorem subTail_go {prog : Program} {w : World} {A : Around} {E : Value → Shared → Prop} {s : Shared} {value slice : Expr} {o i : Value} {T id : String} {ops : List Value} {Q : Value → Shared → Prop} (hT : s.TypeIs o T)
    (hl : typeLookup (.type T) "__getitem__" = pure (some (.builtin id))) (h : wpAny (model prog w) A (getItem o i) Q E s)
    (hs : subscripted slice false o i = operate ops (getItem o i)) :
    wpAny (model prog w) A (subscriptTail value slice o i) Q E s := by
  unfold subscriptTail
  refine wpAny_bind ?_
  rw [getitemInPython_of_ne hT.not_modules]
  refine wpAny_bind (wpAny_specialOf hT hl ?_)
  have fin : wpAny (model prog w) A (subscripted slice false o i) (fun r s₃ => wpAny (model prog w) A (letTemporaryGo value o r >>= fun _ => pure r) Q E s₃) E s := by
    rw [hs]
    exact wpAny_operating (wpAny_mono h (fun r s₃ h₃ => wpAny_bind (wpAny_letTemporaryGo (wpAny_pure h₃))) fun _ _ x => x)
  first
    | exact wpAny_pure (wpAny_bind fin)
    | exact wpAny_bind (wpAny_pure (wpAny_bind fin))
    | exact wpAny_bind fin
theorem slice_sub {prog : Program} {w : World} {A : Around} {E : Value → Shared → Prop} {h₀ hp : Heap} {L : Addr} {m : Str → Option Value} {news : List (Addr × Obj)} {gn : Array GenState} {dr : Drawn} {tk : Nat} {os : OsState} {value slice : Expr} {l : Addr} {items : Array Value} {vl vu vs : Value} {lo hi st : Option Int} {ops : List Value} {Q : Value → Shared → Prop}
    (F : Fr h₀ L hp m) (N : News h₀ L hp news) (hl : hp.IsList l items) (pl : IsPart vl lo) (pu : IsPart vu hi) (ps : IsPart vs st) (h0 : st ≠ some 0)
    (h : ∀ D h', Fr h₀ L h' m → News h₀ L h' ((D, W.listOf (slicePick items lo hi st) 0) :: news) → (∀ b o, hp.get? b = some o → h'.get? b = some o) → hp.objs.size ≤ D → Q (.ref D) ⟨h', gn, dr, tk, os⟩)
    (hsz : items.size ≤ sizeLine)
    (hs : subscripted slice false (.ref l) (.ref hp.objs.size) = operate ops (getItem (.ref l) (.ref hp.objs.size))) :
    wpAny (model prog w) A (subscriptTail value slice (.ref l) (.ref hp.objs.size)) Q E ⟨hp.push { cls := .type "slice", data := .fields #[vl, vu, vs] }, gn, dr, tk, os⟩ := by
  refine subTail_go (Heap.IsList.typeIs (s := ⟨hp.push { cls := .type "slice", data := .fields #[vl, vu, vs] }, gn, dr, tk, os⟩) (hl.push _)) list_getitem_lookup
    (wpAny_getItem_list_slice (hl.push _) (Heap.IsSliceOf.new ..) pl pu ps h0 ?_ hsz) hs
  have N1 := News.push (F.push { cls := .type "slice", data := .fields #[vl, vu, vs] }) (N.grown fun _ _ e => Heap.get?_push_of_some _ e) { cls := .type "list", data := .seq (slicePick items lo hi st) }
  show Q (.ref (hp.push _).objs.size) _
  refine h _ _ ((F.push _).push _) ?_ (fun b o e => Heap.get?_push_of_some _ (Heap.get?_push_of_some _ e)) (by rw [Heap.size_push]; exact Nat.le_succ _)
  rw [Heap.size_push] at N1 ⊢
  exact N1
end Mine
end
theorem Mine.anewLaw : True := by
  w_top off
  exact trivial
section
open PySem PySem.W PyProof.Rows PySem.Calls
set_option Elab.async false
set_option maxRecDepth 100000
set_option maxHeartbeats 8000000
set_option linter.unusedVariables false
namespace Mine
theorem lawC {w : World} {p : Program} {loose : List Str} {mean : ExcName → Option Value} {mg mb : Str → Option Value} {base : Heap} {s : Shared} {Q E : Value → Shared → Prop}
   (K0 : Below callerA base [] s.heap) (hmb : ∀ b ∈ [57], base.get? b = none ∧ b ∉ frs []) (X : (hd1.heap_39 w.params).In base) (T : Top p loose mean mg mb base)
   (C : CodeHd base 61 57) (hT : Tab s.heap 61 57)
   {l : Addr} {vs : List Value} {ns : List Int} (hl : s.heap.IsList l vs.toArray) (hi : IntsAre vs ns) (hlen : ns.length ≤ 63)
   (ret : ∀ s', (∀ b o, b ≠ 57 → s.heap.get? b = some o → s'.heap.get? b = some o) → Tab s'.heap 61 57 → GBare s.gens s'.gens → s'.drawn = s.drawn → s'.os = s.os → Q (.bool true) s') :
   wpAny (model PySem.Challenge.rw_kp0013_01.row.prog w) callerA (call (.ref 77) [.ref l]) Q E s := by
  revert X; k_fill; intro X
  refine wpAny_call ?_
  refine' enter_cells2 (binds := [("script", .ref l)]) K0 hmb X T ?ho ?hcd ?hroom ?hbind ?hkind ?hnd ?_ ?c1 ?c2 ?c3
  case ho => k_is
  case hcd => k_is
  case hroom => decide
  case hbind => exact BindsTo.of_eq rfl
  case hkind => exact rfl
  case hnd => decide +kernel
  case c1 => exact rfl
  case c2 => exact rfl
  case c3 => exact rfl
  intro g L' h₁ tk cells F N Y B Xg Tg Kp hmg hkeep hL'
  k_cells Y
  rename_i oFar dFar
  (try simp only [List.cons_append, List.nil_append] at N)
  (try dsimp only)
  obtain ⟨ps, hTc, hTt⟩ := hT
  have htr : TriplesOk ps.toList := triples_of hTc
  have h57 : s.heap.get? 57 = some (tabObj ps) := hTt.2
  have hL57 : (57 : Nat) ≠ L' := fun q => by
    have := Heap.lt_size h57
    rw [q, hL'] at this
    exact Nat.lt_irrefl _ this
  have hg57 : g.get? 57 = none := hmg 57 (by simp)
  replace N := newsAdd N (show h₁.get? 57 = some (tabObj ps) from hkeep _ _ h57) hL57 hg57
  have ne57 : ∀ {z : Addr} {o : Obj}, s.heap.get? z = some o → o.cls ≠ .none → z ≠ 57 := fun ho hc q => by
    rw [q, h57] at ho; cases ho; exact hc rfl
  have lst57 : ∀ {z : Addr} {l : Array Value}, s.heap.IsList z l → g.IsList z l := fun hl => by
    obtain ⟨o, ho, hc, r⟩ := hl
    exact ⟨o, Kp _ _ (by simpa using ne57 ho (by rw [hc]; nofun)) ho, hc, r⟩
  replace hl := lst57 hl
  have hC : CodeHd g 61 57 := C.keeps B.stays
  have hid := And.intro X (And.intro T C)
  have hsz : vs.length = ns.length := IntsAre.length hi
  clear hkeep hL' K0 X T hTc hTt C
  (repeat' ((fail_if_success (with_reducible first | show wpAny _ _ (call (Value.ref _) _) _ _ _ | show wpAny _ _ (exec (Stmt.For _ _ _ _ _) _) _ _ _)); first | (exfalso; omega) | (k_unfold; (try dsimp only)) | walk1 | (dsimp only; walk1) | (leave1; walk_say "STEP leave1"; try dsimp only)))
  rename Fr _ _ _ _ => F
  rename News _ _ _ _ => N
  rename_i l0 h1 l1 D0 vs1 h2 hI1 l2 h3 F3 nD3 hkl1 hkl0 g0 hI8 hL8 D h5 tk5 o15

  have hNums := nums_of hI8
  have hLen : ys.length = 6 + ns.length := by rw [hL8]; simp; omega
  clear F3 nD3 hI8 hL8 hI1 hkl0 hkl1 l1 l2
  obtain ⟨NN, hNN⟩ : ∃ NN, NN = (ys.length - 4) / 12 + 1 := ⟨_, rfl⟩
  refine for_rngC (a := 0) (c := 12) (N := NN) rfl ?_
  (repeat' ((fail_if_success (with_reducible first | show wpAny _ _ (call (Value.ref _) _) _ _ _ | show wpAny _ _ (exec (Stmt.For _ _ _ _ _) _) _ _ _)); first | (exfalso; omega) | (k_unfold; (try dsimp only)) | walk1 | (dsimp only; walk1) | (leave1; walk_say "STEP leave1"; try dsimp only)))
  have hD : Heap.IsList h5 D ys.toArray := ⟨_, (N (D, LCg.lst ys) (by simp)).1, rfl, _, rfl⟩
  refine call_len_list hD (by simp; omega) ?_
  simp only [List.size_toArray, hLen]
  (repeat' ((fail_if_success (with_reducible first | show wpAny _ _ (call (Value.ref _) _) _ _ _ | show wpAny _ _ (eval (Expr.ListComp _ _ _ _) _) _ _ _ | show wpAny _ _ (pyIter _) _ _ _ | show wpAny _ _ (exec (Stmt.Assign _ (Expr.ListComp _ _ _ _) _) _) _ _ _ | show wpAny _ _ (exec (Stmt.For _ _ _ _ _) _) _ _ _ | show ∃ _, _)); first | (exfalso; omega) | (k_unfold; (try dsimp only)) | walk1 | (dsimp only; walk1) | (leave1; walk_say "STEP leave1"; try dsimp only)))
  rename Fr _ _ _ _ => F
  rename News _ _ _ _ => N
  rename IsRange _ _ _ _ _ _ _ _ => rgX
  have hNN2 : Builtin.Range.rangeSize 0 (((6 + ns.length : Nat) : Int) - 3) 12 = (NN : Int) := by
    simp only [Builtin.Range.rangeSize]
    rw [if_pos (by decide), if_pos (by omega), hNN, hLen]
    omega
  refine iter_rangeC (N := NN) rgX hNN2 (range_small (by decide) (by omega) (by decide) (by omega) (by decide) (by decide)) ?_
  intro I h6 hI6 k6 hIr
  refine ⟨I, rfl, LInv s g L' D ys I NN, ?start, fun i s' h => h.it, ?turn, ?done⟩
  case start =>
    obtain ⟨hIL, hIg⟩ := fr_new F hI6
    have N1 := newsKeep N k6
    have out : ∀ q : Addr × Obj, q ∈ _ → I ≠ q.1 := fun q hq e => Nat.lt_irrefl _ (Nat.lt_of_lt_of_le (Heap.lt_size (N q hq).1) (e ▸ hI6))
    refine ⟨rfl, rfl, gbare_refl _, ⟨_, frKeep F k6, rfl⟩, ⟨ps, oFar, ?_, htr, ⟨_, dFar⟩⟩, ⟨out (57, tabObj ps) (by simp), out (L' + 1, oFar) (by simp), out (D, LCg.lst ys) (by simp)⟩⟩
    intro q hq
    simp only [List.mem_cons, List.not_mem_nil, or_false] at hq
    rcases hq with rfl | rfl | rfl | rfl
    · exact ⟨hIr, hIL, hIg⟩
    · exact N1 _ (by simp)
    · exact N1 _ (by simp)
    · exact N1 _ (by simp)
  case done =>
    clear F N k6 hIr hI6
    intro s' h' tk' hInv hk'
    obtain ⟨dr, os, ba, ⟨m, F, m1⟩, ⟨ps, oF, N, htr, ⟨v, dF⟩⟩, ⟨nI1, nI2, nI3⟩⟩ := hInv
    obtain ⟨s'h, s'g, s'd, s't, s'o⟩ := s'
    dsimp only at *
    subst dr os
    have nI := N _ List.mem_cons_self
    have F1 : Fr g L' h' m := frBut (P := [I]) F (fun b o hb e => hk' b o (by simpa using hb) e) (by simpa using Ne.symm nI.2.1) (fun b hb => by rw [List.mem_singleton.mp hb]; exact nI.2.2)
    have h57' := hk' _ _ (Ne.symm nI1) (N (57, tabObj ps) (by simp)).1
    clear F N
    (repeat' ((fail_if_success (with_reducible first | show wpAny _ _ (call (Value.ref _) _) _ _ _ | show wpAny _ _ (exec (Stmt.For _ _ _ _ _) _) _ _ _)); first | (exfalso; omega) | (k_unfold; (try dsimp only)) | walk1 | (dsimp only; walk1) | (leave1; walk_say "STEP leave1"; try dsimp only)))
    exact ret _ (fun b o hb e => F1.keep _ _ (Kp b o (by simpa using hb) e)) (tabOf hC F1 h57' htr) ba rfl rfl
  case turn =>
    clear F N k6 hIr hI6
    intro i ti s' h' tk' E' hi hInv hit' hk'
    obtain ⟨dr, os, ba, ⟨m, F, m1⟩, ⟨ps, oF, N, htr, ⟨v, dF⟩⟩, ⟨nI1, nI2, nI3⟩⟩ := hInv
    obtain ⟨s'h, s'g, s'd, s't, s'o⟩ := s'
    dsimp only at *
    subst dr os
    obtain ⟨F1, N1⟩ := afterIter (l := [(57, tabObj ps), (L' + 1, oF), (D, LCg.lst ys)]) F N hk' List.mem_cons_self hit' (by
      intro q hq
      simp only [List.mem_cons, List.not_mem_nil, or_false] at hq
      rcases hq with rfl | rfl | rfl
      · exact ⟨by simp, Ne.symm nI1⟩
      · exact ⟨by simp, Ne.symm nI2⟩
      · exact ⟨by simp, Ne.symm nI3⟩)
    rw [pin1 m1] at F1
    have hv : (0 + (i : Int) * 12) = ((12 * i : Nat) : Int) := by omega
    rw [hv]
    have hat : 12 * i + 4 ≤ ys.length := by omega
    clear F N hk'
    have hD : Heap.IsList h' D ys.toArray := ⟨_, (N1 (D, LCg.lst ys) (by simp)).1, rfl, _, rfl⟩
    have hsz : ys.toArray.size ≤ sizeLine := Nat.le_trans (by simp; omega : ys.toArray.size ≤ 1000) (by decide)
    (repeat' ((fail_if_success (with_reducible first | show wpAny _ _ (call (Value.ref _) _) _ _ _ | show wpAny _ _ (exec (Stmt.For _ _ _ _ _) _) _ _ _ | show wpAny _ _ (call _ _) _ _ _ | show wpAny _ _ (subscriptTail _ _ _ _) _ _ _)); first | (exfalso; omega) | (k_unfold; (try dsimp only)) | walk1 | (dsimp only; walk1) | (leave1; walk_say "STEP leave1"; try dsimp only)))
    dsimp only
    rename Fr _ _ _ _ => F
    rename News _ _ _ _ => N
    clear hD
    have hD : Heap.IsList _ D ys.toArray := ⟨_, (N (D, LCg.lst ys) (by simp)).1, rfl, _, rfl⟩
    have e1 : ((12 * i : Nat) : Int) + 1 = ((12 * i + 1 : Nat) : Int) := by omega
    have e12 : ((12 * i : Nat) : Int) + 12 = ((12 * i + 12 : Nat) : Int) := by omega
    refine slice_sub (lo := some ((12 * i + 1 : Nat) : Int)) (hi := some ((12 * i + 12 : Nat) : Int)) (st := some 2) F N hD (by rw [e1]; exact .int _ _) (by rw [e12]; exact .int _ _) (.int _ _) (by decide) ?_ hsz rfl
    intro Dy h7 F N k7 hDy
    (repeat' ((fail_if_success (with_reducible first | show wpAny _ _ (call (Value.ref _) _) _ _ _ | show wpAny _ _ (exec (Stmt.For _ _ _ _ _) _) _ _ _ | show wpAny _ _ (call _ _) _ _ _ | show wpAny _ _ (subscriptTail _ _ _ _) _ _ _)); first | (exfalso; omega) | (k_unfold; (try dsimp only)) | walk1 | (dsimp only; walk1) | (leave1; walk_say "STEP leave1"; try dsimp only)))
    dsimp only
    rename Fr _ _ _ _ => F
    rename News _ _ _ _ => N
    clear hD
    have hD : Heap.IsList _ D ys.toArray := ⟨_, (N (D, LCg.lst ys) (by simp)).1, rfl, _, rfl⟩
    refine slice_sub (lo := some ((12 * i : Nat) : Int)) (hi := some ((12 * i + 12 : Nat) : Int)) (st := some 2) F N hD (.int _ _) (by rw [e12]; exact .int _ _) (.int _ _) (by decide) ?_ hsz rfl
    intro Dx h8 F N k8 hDx
    (repeat' ((fail_if_success (with_reducible first | show wpAny _ _ (call (Value.ref _) _) _ _ _ | show wpAny _ _ (exec (Stmt.For _ _ _ _ _) _) _ _ _ | show wpAny _ _ (call _ _) _ _ _ | show wpAny _ _ (subscriptTail _ _ _ _) _ _ _)); first | (exfalso; omega) | (k_unfold; (try dsimp only)) | walk1 | (dsimp only; walk1) | (leave1; walk_say "STEP leave1"; try dsimp only)))
    have hY1 := nums_slice hNums (some ((12 * i + 1 : Nat) : Int)) (some ((12 * i + 12 : Nat) : Int)) (some 2)
    have hX1 := nums_slice hNums (some ((12 * i : Nat) : Int)) (some ((12 * i + 12 : Nat) : Int)) (some 2)
    have hY2 := len_2 (items := ys.toArray) (a := 12 * i + 1) (b := 12 * i + 12)
    have hX2 := len_2 (items := ys.toArray) (a := 12 * i) (b := 12 * i + 12)
    simp only [List.size_toArray, Array.length_toList] at hY2 hX2
    generalize slicePick ys.toArray (some ((12 * i + 1 : Nat) : Int)) (some ((12 * i + 12 : Nat) : Int)) (some 2) = YP at N hY1 hY2
    generalize slicePick ys.toArray (some ((12 * i : Nat) : Int)) (some ((12 * i + 12 : Nat) : Int)) (some 2) = XP at N hX1 hX2
    obtain ⟨n, hn⟩ : ∃ n, n = YP.size := ⟨_, rfl⟩
    have h2n : 2 ≤ n := by omega
    have hn6 : n ≤ 6 := by omega
    have hXn : n ≤ XP.size := by omega
    have hX12 : XP.size ≤ 1000 := by omega
    clear hY2 hX2
    have hDy' : Heap.IsList _ Dy YP := ⟨_, (N (Dy, W.listOf YP 0) (by simp)).1, rfl, _, rfl⟩
    refine call_len_list hDy' (by omega) ?_
    rw [← hn]
    (repeat' ((fail_if_success (with_reducible first | show wpAny _ _ (call (Value.ref _) _) _ _ _ | show wpAny _ _ (exec (Stmt.For _ _ _ _ _) _) _ _ _ | show wpAny _ _ (call _ _) _ _ _ | show wpAny _ _ (subscriptTail _ _ _ _) _ _ _)); first | (exfalso; omega) | (k_unfold; (try dsimp only)) | walk1 | (dsimp only; walk1) | (leave1; walk_say "STEP leave1"; try dsimp only)))
    dsimp only
    rename Fr _ _ _ _ => F
    rename News _ _ _ _ => N
    have hDx' : Heap.IsList _ Dx XP := ⟨_, (N (Dx, W.listOf XP 0) (by simp)).1, rfl, _, rfl⟩
    refine slice_sub (lo := none) (hi := some ((n : Nat) : Int)) (st := none) F N hDx' .none (.int _ _) .none (by decide) ?_ (Nat.le_trans hX12 (by decide)) rfl
    intro Dw h9 F N k9 hDw
    (repeat' ((fail_if_success (with_reducible first | show wpAny _ _ (call (Value.ref _) _) _ _ _ | show wpAny _ _ (exec (Stmt.For _ _ _ _ _) _) _ _ _ | show wpAny _ _ (call _ _) _ _ _ | show wpAny _ _ (subscriptTail _ _ _ _) _ _ _)); first | (exfalso; omega) | (k_unfold; (try dsimp only)) | walk1 | (dsimp only; walk1) | (leave1; walk_say "STEP leave1"; try dsimp only)))
    rename Fr _ _ _ _ => F
    rename News _ _ _ _ => N
    have hX3 := nums_slice (vs := XP.toList) hX1 none (some ((n : Nat) : Int)) none
    have hX4 := len_to (items := XP) (b := n)
    rw [show XP.toList.toArray = XP from by simp] at hX3
    rw [Nat.min_eq_left hXn, Array.length_toList] at hX4
    generalize slicePick XP none (some ((n : Nat) : Int)) none = XW at N hX3 hX4
    clear hDx' hDy' hX1 hD
    refine for_tup rfl ?_
    (repeat' ((fail_if_success (with_reducible first | show wpAny _ _ (call (Value.ref _) _) _ _ _ | show wpAny _ _ (eval (Expr.ListComp _ _ _ _) _) _ _ _ | show wpAny _ _ (pyIter _) _ _ _ | show wpAny _ _ (exec (Stmt.Assign _ (Expr.ListComp _ _ _ _) _) _) _ _ _ | show wpAny _ _ (exec (Stmt.For _ _ _ _ _) _) _ _ _ | show ∃ _, _)); first | (exfalso; omega) | (k_unfold; (try dsimp only)) | walk1 | (dsimp only; walk1) | (leave1; walk_say "STEP leave1"; try dsimp only)))
    rename Fr _ _ _ _ => F
    rename News _ _ _ _ => N
    rename_i tp h10 l14
    have f30 : (2 : Int) ^ Int.toNat 30 = 1073741824 := by decide
    rw [f30] at N
    refine ⟨tp, _, rfl, ⟨_, (N (tp, _) List.mem_cons_self).1, rfl, _, rfl⟩, ?_⟩
    intro J h11 hJ k11 hJit hJt
    dsimp only at hJ k11 hJit hJt
    generalize hits : (#[Value.int 0 _, Value.int 1073741824 _] : Array Value) = its at N hJt ⊢
    have hIts : ∀ (j : Nat) vv, its[j]? = some vv → ∃ f tf, vv = .int f tf ∧ (f = 0 ∨ f = 1073741824) := by
      intro j vv h
      rw [← hits] at h
      match j with
      | 0 => exact ⟨_, _, (Option.some.inj h).symm, .inl rfl⟩
      | 1 => exact ⟨_, _, (Option.some.inj h).symm, .inr rfl⟩
      | j + 2 => simp at h
    clear hits
    generalize hbs : ([(D, LCg.lst ys), (I, rgC (0 + ((i + 1 : Nat) : Int) * 12) ((NN : Int) - ((i + 1 : Nat) : Int)) 12), (Dw, W.listOf XW 0), (Dy, W.listOf YP 0), (tp, { cls := .type "tuple", data := .seq its })] : List (Addr × Obj)) = bs
    have hbm : ∀ q ∈ bs, q.2.cls ≠ .none ∧ ∀ v, q.2.data ≠ .cell v := by
      intro q hq
      rw [← hbs] at hq
      simp only [List.mem_cons, List.not_mem_nil, or_false] at hq
      rcases hq with rfl | rfl | rfl | rfl | rfl <;> exact ⟨nofun, nofun⟩
    refine ⟨MInv s g L' D Dw Dy tp its bs J, ?start, fun i s' h => ⟨h.it, h.tu⟩, ?turn, ?done⟩
    case start =>
      obtain ⟨hJL, hJg⟩ := fr_new F hJ
      have N1 := newsKeep N k11
      obtain ⟨oJ, hoJ, _⟩ := id hJit
      have out : ∀ q : Addr × Obj, q ∈ _ → J ≠ q.1 := fun q hq e => Nat.lt_irrefl _ (Nat.lt_of_lt_of_le (Heap.lt_size (N q hq).1) (e ▸ hJ))
      refine ⟨rfl, rfl, ba, ⟨_, frKeep F k11, rfl, rfl, rfl⟩, ⟨ps, oF, oJ, ?_, htr, ⟨_, dF⟩⟩, ⟨out (57, tabObj ps) (by simp), out (L' + 1, oF) (by simp), ?_⟩, hJit, by rw [← hbs]; simp⟩
      · intro q hq
        rcases List.mem_cons.mp hq with rfl | hq
        · exact ⟨hoJ, hJL, hJg⟩
        rcases List.mem_cons.mp hq with rfl | hq
        · exact N1 _ (by simp)
        rcases List.mem_cons.mp hq with rfl | hq
        · exact N1 _ (by simp)
        rw [← hbs] at hq
        simp only [List.mem_cons, List.not_mem_nil, or_false] at hq
        rcases hq with rfl | rfl | rfl | rfl | rfl <;> exact N1 _ (by simp)
      · intro q hq
        rw [← hbs] at hq
        simp only [List.mem_cons, List.not_mem_nil, or_false] at hq
        rcases hq with rfl | rfl | rfl | rfl | rfl <;> exact Ne.symm (out _ (by simp))
    case done =>
      clear F N k11 hJ hJit hJt
      intro s' h' tk' hInv hk'
      obtain ⟨dr, os, ba, ⟨m, F, m1, m2, m3⟩, ⟨ps, oF, oJ, N, htr, ⟨v, dF⟩⟩, ⟨nJ1, nJ2, nJ3⟩, _, _⟩ := hInv
      obtain ⟨s'h, s'g, s'd, s't, s'o⟩ := s'
      dsimp only at *
      subst dr os
      have nJ := N (J, oJ) List.mem_cons_self
      have F1 : Fr g L' h' m := frBut (P := [J]) F (fun b o hb e => hk' b o (by simpa using hb) e) (by simpa using Ne.symm nJ.2.1) (fun b hb => by rw [List.mem_singleton.mp hb]; exact nJ.2.2)
      (repeat' ((fail_if_success (with_reducible first | show wpAny _ _ (call (Value.ref _) _) _ _ _ | show wpAny _ _ (exec (Stmt.For _ _ _ _ _) _) _ _ _)); first | (exfalso; omega) | (k_unfold; (try dsimp only)) | walk1 | (dsimp only; walk1) | (leave1; walk_say "STEP leave1"; try dsimp only)))
      refine ⟨rfl, rfl, ba, ⟨m, F1, m1⟩, ⟨ps, oF, ?_, htr, ⟨_, dF⟩⟩, ⟨nI1, nI2, nI3⟩⟩
      intro q hq
      have at_ : ∀ q, q ∈ (57, tabObj ps) :: (L' + 1, oF) :: bs → q.1 ≠ J → h'.get? q.1 = some q.2 ∧ q.1 ≠ L' ∧ g.get? q.1 = none := fun q hq hn => ⟨hk' _ _ hn (N q (List.mem_cons_of_mem _ hq)).1, (N q (List.mem_cons_of_mem _ hq)).2⟩
      simp only [List.mem_cons, List.not_mem_nil, or_false] at hq
      rcases hq with rfl | rfl | rfl | rfl
      · exact at_ _ (by rw [← hbs]; simp) (nJ3 _ (by rw [← hbs]; simp))
      · exact at_ _ (by simp) (Ne.symm nJ1)
      · exact at_ _ (by simp) (Ne.symm nJ2)
      · exact at_ _ (by rw [← hbs]; simp) (nJ3 _ (by rw [← hbs]; simp))
    case turn =>
      clear F N k11 hJ hJit hJt
      intro j vv s' h' tk' E' hj hInv hit' htp' hk'
      obtain ⟨f, tf, rfl, hf⟩ := hIts j vv hj
      obtain ⟨dr, os, ba, ⟨m, F, m1, m2, m3⟩, ⟨ps, oF, oJ, N, htr, ⟨v, dF⟩⟩, ⟨nJ1, nJ2, nJ3⟩, _, htb⟩ := hInv
      obtain ⟨s'h, s'g, s'd, s't, s'o⟩ := s'
      dsimp only at *
      subst dr os
      obtain ⟨oJ', hoJ', hcJ', hdJ'⟩ := id hit'
      obtain ⟨F1, N1⟩ := afterIter (l := (57, tabObj ps) :: (L' + 1, oF) :: bs) F N hk' List.mem_cons_self hoJ' (by
        intro q hq
        rcases List.mem_cons.mp hq with rfl | hq
        · exact ⟨by simp, Ne.symm nJ1⟩
        rcases List.mem_cons.mp hq with rfl | hq
        · exact ⟨by simp, Ne.symm nJ2⟩
        · exact ⟨List.mem_cons_of_mem _ (List.mem_cons_of_mem _ (List.mem_cons_of_mem _ hq)), nJ3 q hq⟩)
      rw [pin3 m1 m2 m3] at F1
      clear F N hk'
      have nF := N1 (L' + 1, oF) (by simp)
      refine store_cell F1 nF.1 dF nF.2.1 nF.2.2 ?_
      intro h12 oF2 F2 k12 hoF2 dF2
      have N2 := (afterIter (l := (J, oJ') :: (57, tabObj ps) :: bs) F1 N1 k12 (List.mem_cons_of_mem _ (List.mem_cons_of_mem _ List.mem_cons_self)) hoF2 (by
        intro q hq
        rcases List.mem_cons.mp hq with rfl | hq
        · exact ⟨by simp, nJ2⟩
        rcases List.mem_cons.mp hq with rfl | hq
        · exact ⟨by simp, ne_dat (N1 (57, tabObj ps) (by simp)).1 nF.1 (by rw [dF]; nofun)⟩
        · have hm := List.mem_cons_of_mem (J, oJ') (List.mem_cons_of_mem (57, tabObj ps) (List.mem_cons_of_mem (L' + 1, oF) hq))
          exact ⟨hm, ne_dat (N1 q hm).1 nF.1 (by rw [dF]; exact (hbm q hq).2 _)⟩)).2
      clear F1 N1 k12 nF hit' htp'
      have bm : ∀ q ∈ bs, q ∈ (L' + 1, oF2) :: (J, oJ') :: (57, tabObj ps) :: bs := fun q hq => List.mem_cons_of_mem _ (List.mem_cons_of_mem _ (List.mem_cons_of_mem _ hq))
      have nDw := N2 (Dw, W.listOf XW 0) (bm _ (by rw [← hbs]; simp))
      have nDy := N2 (Dy, W.listOf YP 0) (bm _ (by rw [← hbs]; simp))
      have nF := N2 (L' + 1, oF2) List.mem_cons_self
      (repeat' ((fail_if_success (with_reducible first | show wpAny _ _ (call (Value.ref _) _) _ _ _ | show wpAny _ _ (exec (Stmt.For _ _ _ _ _) _) _ _ _  | show wpAny _ _ (storeName _ _ _) _ _ _ | show wpAny _ _ (eval (Expr.ListComp _ _ _ _) _) _ _ _)); first | (exfalso; omega) | (k_unfold; (try dsimp only)) | walk1 | (dsimp only; walk1) | (leave1; walk_say "STEP leave1"; try dsimp only)))
      refine lc_map (Gx f) (cl := [("far", L' + 1)]) (rv := XW.toList) rfl (fun Q' h => nameX_L F2 (by rfl) h) ⟨_, nDw.1, rfl, _, rfl⟩ (by rw [Array.length_toList]; omega) ?eltx ?_
      case eltx =>
        intro C v s₃ m₃ E'' hv hn3 hm3 old
        obtain ⟨a, t, rfl, ha⟩ := hX3 v hv
        exact elt_x rfl hn3 hm3 (old _ _ nF.1) dF2 (by unfold Sm; omega) (by unfold Sm; omega) (by unfold Sm; omega) (fun r tk hr => ⟨_, _, _, _, rfl, rfl, hr⟩) rfl rfl rfl rfl (by decide) (by decide)
      intro D1 h13 tk13 xv1 k13 nD1 l1 hp1
      have N3 := newsKeep N2 k13
      obtain ⟨oD1, N3, cD1, nn1, dD1⟩ := newList_add F2 N3 nD1 l1
      have F3 := frKeep F2 k13
      clear F2 N2
      dsimp only
      (repeat' ((fail_if_success (with_reducible first | show wpAny _ _ (call (Value.ref _) _) _ _ _ | show wpAny _ _ (exec (Stmt.For _ _ _ _ _) _) _ _ _  | show wpAny _ _ (storeName _ _ _) _ _ _ | show wpAny _ _ (eval (Expr.ListComp _ _ _ _) _) _ _ _)); first | (exfalso; omega) | (k_unfold; (try dsimp only)) | walk1 | (dsimp only; walk1) | (leave1; walk_say "STEP leave1"; try dsimp only)))
      refine lc_map (Gy f) (cl := [("far", L' + 1)]) (rv := YP.toList) rfl (fun Q' h => nameX_L F3 (by rfl) h) ⟨_, k13 _ _ nDy.1, rfl, _, rfl⟩ (by rw [Array.length_toList]; omega) ?elty ?_
      case elty =>
        intro C v s₃ m₃ E'' hv hn3 hm3 old
        obtain ⟨a, t, rfl, ha⟩ := hY1 v hv
        exact elt_y hn3 hm3 (old _ _ (k13 _ _ nF.1)) dF2 (fun tk => ⟨_, _, _, rfl, rfl⟩) rfl rfl rfl rfl (by decide) (by decide)
      intro D2 h14 tk14 yv1 k14 nD2 l2 hp2
      have N4 := newsKeep N3 k14
      obtain ⟨oD2, N4, cD2, nn2, dD2⟩ := newList_add F3 N4 nD2 l2
      have F4 := frKeep F3 k14
      clear F3 N3
      dsimp only
      (repeat' ((fail_if_success (with_reducible first | show wpAny _ _ (call (Value.ref _) _) _ _ _ | show wpAny _ _ (exec (Stmt.For _ _ _ _ _) _) _ _ _  | show wpAny _ _ (storeName _ _ _) _ _ _ | show wpAny _ _ (eval (Expr.ListComp _ _ _ _) _) _ _ _)); first | (exfalso; omega) | (k_unfold; (try dsimp only)) | walk1 | (dsimp only; walk1) | (leave1; walk_say "STEP leave1"; try dsimp only)))
      obtain ⟨as, la, boA, ia⟩ := hX3.as
      obtain ⟨cs, lc, boC, ic⟩ := hY1.as
      rw [Array.length_toList] at la lc
      have la' : as.length = n := la.trans hX4
      have lc' : cs.length = n := lc.trans hn.symm
      obtain ⟨us, hu, huf⟩ := vx_x hp1 ia
      obtain ⟨zs, hz, hzi⟩ := vx_y hp2 ic
      have hu' : VxAre xv1 us ((List.range n).map fun i => f * 2 ^ 14 + 3840 * as.getD i 0) := by rw [← la']; rw [map_range_of] at hu; exact hu
      have hz' : VxAre yv1 zs ((List.range n).map fun i => f * 2 ^ 14 + 245760 * cs.getD i 0) := by rw [← lc']; rw [map_range_of] at hz; exact hz
      have len1 : xv1.length = n := by rw [hu'.1.1, hu'.2.1]; simp
      have len2 : yv1.length = n := by rw [hz'.1.1, hz'.2.1]; simp
      have M := holdM_of (fa := fun i => as.getD i 0) (fb := fun i => cs.getD i 0) (F := f * 2 ^ 14) h2n hn6 boA boC (by omega)
      obtain ⟨X, T, C⟩ := hid
      have nT := N4 (57, tabObj ps) (by simp)
      refine lholds (pushX B F4 rfl rfl) ?hmb X T C (tabOf hC F4 nT.1 htr) (isList_of (N4 (D1, oD1) (by simp)).1 cD1 dD1) (isList_of (N4 (D2, oD2) (by simp)).1 cD2 dD2) hu' hz' len1 len2 h2n hn6 huf hzi M ?room ?un ?ret
      case hmb =>
        intro b hb
        rw [List.mem_singleton.mp hb]
        refine ⟨(hmb 57 (by simp)).1, fun q => ?_⟩
        rcases List.mem_cons.mp q with q | q
        · exact hL57 q
        · exact (hmb 57 (by simp)).2 q
      case room => decide
      case un => decide
      case ret =>
        intro s9 k9 hT9 gb9 dr9 os9
        obtain ⟨h9, g9, d9, tk9, o9⟩ := s9
        dsimp only at k9 hT9 gb9 dr9 os9
        subst dr9 os9
        obtain ⟨ps9, hT9c, hT9t⟩ := hT9
        have htr9 := triples_of hT9c
        obtain ⟨F9, N9⟩ := after57 (l := (L' + 1, oF2) :: (J, oJ') :: bs) F4 N4 k9 nT.1 hT9t.2 hL57 hg57 (by
          intro q hq
          rcases List.mem_cons.mp hq with rfl | hq
          · exact ⟨by simp, by rw [dF2]; exact .inl nofun⟩
          rcases List.mem_cons.mp hq with rfl | hq
          · exact ⟨by simp, by rw [hcJ']; exact .inr nofun⟩
          · exact ⟨List.mem_cons_of_mem _ (List.mem_cons_of_mem _ (bm q hq)), .inr (hbm q hq).1⟩)
        clear N4 F4 k9 hT9c hT9t
        (repeat' ((fail_if_success (with_reducible first | show wpAny _ _ (call (Value.ref _) _) _ _ _ | show wpAny _ _ (exec (Stmt.For _ _ _ _ _) _) _ _ _  | show wpAny _ _ (storeName _ _ _) _ _ _ | show wpAny _ _ (eval (Expr.ListComp _ _ _ _) _) _ _ _)); first | (exfalso; omega) | (k_unfold; (try dsimp only)) | walk1 | (dsimp only; walk1) | (leave1; walk_say "STEP leave1"; try dsimp only)))
        refine ⟨rfl, rfl, gbare_trans _ _ _ ba gb9, ⟨_, F9, rfl, rfl, rfl⟩, ⟨ps9, oF2, oJ', ?_, htr9, ⟨_, dF2⟩⟩, ⟨nJ1, nJ2, nJ3⟩, ⟨oJ', (N9 (J, oJ') (by simp)).1, hcJ', hdJ'⟩, htb⟩
        intro q hq
        rcases List.mem_cons.mp hq with rfl | hq
        · exact N9 _ (by simp)
        rcases List.mem_cons.mp hq with rfl | hq
        · exact N9 _ (by simp)
        rcases List.mem_cons.mp hq with rfl | hq
        · exact N9 _ (by simp)
        · exact N9 _ (List.mem_cons_of_mem _ (List.mem_cons_of_mem _ (List.mem_cons_of_mem _ hq)))
end Mine
end
theorem Mine.anewHead : True := by
  w_top off
  exact trivial
section
open PySem PySem.W PyProof.Rows PySem.Calls
set_option Elab.async false
set_option maxRecDepth 100000
set_option maxHeartbeats 8000000
set_option linter.unusedVariables false
namespace Mine
/-- the end of the law, with the table of covariance grown -/
theorem law_end {c : ClaimW} {cl : Str → Option Addr} {mean : ExcName → Option Value} {args : List WData} {s₁ s' : Shared} (hr : ∀ cls, c.raises args cls = false) (hp : c.post args (.bool true) args = true) (hg : s₁.gens = #[])
    (C : CodeHd s₁.heap 61 57) (h57 : s₁.heap.get? 57 = some (tabObj #[])) (k : ∀ b o, b ≠ 57 → s₁.heap.get? b = some o → s'.heap.get? b = some o) (hT : Tab s'.heap 61 57) (gb : GBare s₁.gens s'.gens) (hos : s'.os = s₁.os) :
    GoodWG c cl mean args s₁ (.ok (.ret (.bool true))) s' := by
  obtain ⟨ps, _, hTt⟩ := hT
  refine ⟨.inl ⟨_, _, [], rfl, hr, ReadsW.bool true, hp, fun _ => ⟨List.nodup_nil, fun _ hm => (nomatch hm)⟩⟩, ⟨fun b o e => ?_, fun b o e => ?_⟩, hos, gb (AllBare.of_eq hg)⟩
  · by_cases hb : b = 57
    · subst hb
      rw [h57] at e
      cases e
      exact .inr (.inl ⟨(C.tab h57).isCodeTable, rfl, #[], ps, rfl, by rw [Array.empty_append]; exact hTt.2⟩)
    · exact .inl (k b o hb e)
  · by_cases hb : b = 57
    · subst hb; exact ⟨_, hTt.2⟩
    · exact ⟨o, k b o hb e⟩
theorem cw : PySem.Challenge.rw_kp0013_01.Holds := hd1 (by
  k_fill
  intro w s₀ s₁ mg mb G Y fa o pm cd doc dV kV ho hd hcd hD hmg hg args vals as hpre hlay hrd hwl hlo
  have KX := kIn_of Y
  have X := (Ground.X G).1
  have V := (Ground.X G).2
  refine Ground.open G ?_
  intro T B D TE TW
  have hmg' : mg "law" = some (.ref fa) := hmg
  have hfa : fa = 77 := by
    have e := mg_of KX T.g (n := "law") (v := .ref 77) (by kernel_rfl)
    rw [hmg'] at e
    cases e
    rfl
  subst hfa
  have hTab := tab_of (x := "covariance") (c := 61) (P := 57) T KX rfl (by kernel_rfl)
  have hT : TabsAt [(61, 57)] s₁.heap := fun q hq => by rw [List.mem_singleton.mp hq]; exact hTab
  have XG := ghost_K hT KX (by kernel_rfl)
  have TG := ghost_top hT T
  have CG : CodeHd (ghostOf s₁.heap [(61, 57)]) 61 57 := (ghost_code hT).1
  wrow_args hpre hlay hrd hwl hlo
  all_goals (first | refine callC_kw ?_ | skip)
  rename IntsAre _ _ => hI
  rename_i hlen hc
  refine lawC ⟨rfl, fun b o e => of_hideAll _ e, trivial⟩ ?hmb XG TG CG ⟨_, hTab.1.code hTab.2 (by exact True.intro), hTab.1.tab hTab.2⟩ (by assumption) hI (by omega) ?ret
  case hmb =>
    intro b hb
    rw [List.mem_singleton.mp hb]
    exact ⟨hideAll_none _ (by simp), by simp [frs]⟩
  case ret =>
    intro s' k9 hT9 gb9 dr9 os9
    refine law_end (fun _ => rfl) ?post hg hTab.1 hTab.2 k9 hT9 gb9 os9
    case post => first | rfl | wrow_post | decide | kernel_rfl | (simp; done))
end Mine
end
set_option Elab.async false
theorem PySem.Challenge.cw_kp0013_01_holds : PySem.Challenge.rw_kp0013_01.Holds := by
  exact Mine.cw
