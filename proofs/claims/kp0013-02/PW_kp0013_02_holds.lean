import PyProof.Rows.All
import Wide.All
import Flt.Sum
import Flt.RightMore
import OpenK.AllK
import Wide.FinOn
import PySem.Challenge.RW_kp0013_02
section
open PySem PySem.W PySem.Calls PyProof.Rows
set_option Elab.async false
set_option maxRecDepth 100000
namespace Mine

/-- a number: an int or a float -/
inductive Nm where
  | i (n : Int)
  | f (x : UInt64)
def Nm.real : Nm → UInt64
  | .i n => Float64.ofInt n
  | .f x => x
def Nm.fits : Nm → Prop
  | .i n => ¬ Flt.Over n
  | .f _ => True
def Nm.isf : Nm → Bool
  | .i _ => false
  | .f _ => true
def NmIs (v : Value) (a : Nm) : Prop := match a with
  | .i n => ∃ t, v = .int n t
  | .f x => ∃ t, v = .float x t

def fsumStep (ps : List UInt64) (x : UInt64) : List UInt64 :=
  let lt := Float64.fsumAdd ps x
  if Float64.isZero lt.2 then lt.1 else lt.1 ++ [lt.2]
def fsumFold (xs : List UInt64) : List UInt64 := xs.foldl fsumStep []
/-- no step of the sum is too great -/
def fsumOk (ps : List UInt64) : List UInt64 → Prop
  | [] => True
  | x :: r => Float64.isFinite (Float64.fsumAdd ps x).2 = true ∧ fsumOk (fsumStep ps x) r
def fsumP (xs : List UInt64) : UInt64 := Float64.fsumEnd (fsumFold xs)

theorem fsumAdd_len : ∀ (ps : List UInt64) (x : UInt64), (Float64.fsumAdd ps x).1.length ≤ ps.length
  | [], _ => Nat.le_refl _
  | y :: ps, x => by
    simp only [Float64.fsumAdd]
    split <;> (split <;> (have := fsumAdd_len ps; simp only [List.length_cons]; first | exact Nat.succ_le_succ (this _) | exact Nat.le_succ_of_le (this _)))
theorem fsumStep_len (ps : List UInt64) (x : UInt64) : (fsumStep ps x).length ≤ ps.length + 1 := by
  unfold fsumStep
  have := fsumAdd_len ps x
  dsimp only
  split <;> simp <;> (first | grind | omega)

theorem kind_fsum : builtinKind "math.fsum" = none := by decide +kernel
theorem plain_fsum : plainId "math.fsum" = true := by decide +kernel
theorem entry_fsum : entryFor table "math.fsum" = some Builtin.«math.fsum» := entryFor_of_fast (by kernel_rfl)
theorem args_fsum (a : Value) : argsOk "math.fsum" ⟨[a], []⟩ := by unfold argsOk; kernel_rfl
theorem plain_fsum_loop : plainId "math.fsum.loop" = true := by decide +kernel
theorem entry_fsum_loop : entryFor table "math.fsum.loop" = some Builtin.«math.fsum.loop» := entryFor_of_fast (by kernel_rfl)

abbrev bitsTup (ps : List UInt64) (n : Nat) : Obj := { cls := .type "tuple", data := .seq (ps.map fun x => rawInt x.toNat).toArray n }

section
variable {prog : Program} {w : World} {A : Around} {E : Value → Shared → Prop} {s : Shared}
theorem packBits_wp {xs : List UInt64} {Q : Value → Shared → Prop} (hsz : xs.length ≤ sizeLine)
    (h : Q (.ref s.heap.objs.size) { s with heap := s.heap.push (bitsTup xs 0) }) :
    wpAny (model prog w) A (newTuple (xs.map fun x => rawInt x.toNat)) Q E s :=
  wpAny_newObj_type h (by show (xs.map fun x => rawInt x.toNat).toArray.size ≤ sizeLine; simpa using hsz)

theorem unpack_map (xs : List UInt64) : (((some (xs.map fun x => rawInt x.toNat).toArray).getD #[]).toList.map fun v => match v with | Value.int i _ => i.toNat.toUInt64 | _ => 0) = xs := by
  simp only [Option.getD_some, List.map_map]
  induction xs with
  | nil => rfl
  | cons x r ih => simp only [List.map_cons, Function.comp, rawInt, Int.toNat_natCast]; rw [show x.toNat.toUInt64 = x by simp]; congr 1
end

theorem realArg_nm {prog : Program} {w : World} {A : Around} {E : Value → Shared → Prop} {s : Shared} {Q : UInt64 → Shared → Prop} {v : Value} {a : Nm} (hA : A.handled = none) (hv : NmIs v a) (hf : a.fits)
    (h : ∀ tk, s.toks ≤ tk → Q a.real { s with toks := tk }) : wpAny (model prog w) A (Builtin.Math.realArg v) Q E s := by
  cases a with
  | i n =>
    obtain ⟨t, rfl⟩ := hv
    exact Flt.realArg_int hA (fun c => absurd c hf) fun _ => h _ (Nat.le_succ _)
  | f x =>
    obtain ⟨t, rfl⟩ := hv
    show wpAny _ _ (pure x) _ _ _
    exact wpAny_pure (h s.toks (Nat.le_refl _))

section
variable {prog : Program} {w : World} {A : Around} {R : Result → Shared → Prop} {I : Addr} {fp wr : List Addr} {G : Array GenState → Array GenState → Prop} {P : Nat → Value → Prop} {St : Nat → Shared → Prop}

theorem codeAny_fsum_loop {xs : List Nm} (hA : A.handled = none) (W : WalksS prog w A.in1 I fp wr G xs.length P St) (hval : ∀ i v, P i v → ∃ a, xs[i]? = some a ∧ NmIs v a) (hfit : ∀ a ∈ xs, a.fits) (hlen : xs.length < sizeLine)
    (B : Nat) (hB : ∀ b ∈ fp, b < B) :
    ∀ (k i : Nat) (s : Shared) (ps : List UInt64) (T S : Addr) (c1 c2 : Nat), xs.length - i = k → i ≤ xs.length → St i s → ps.length ≤ i → B ≤ T → B ≤ S → s.heap.get? T = some (bitsTup ps c1) → s.heap.get? S = some (bitsTup [Float64.zero false, Float64.zero false] c2) →
    fsumOk ps ((xs.drop i).map Nm.real) →
    (∀ s' t, Moved wr G s s' → R (.ok (.ret (.float (Float64.fsumEnd (((xs.drop i).map Nm.real).foldl fsumStep ps)) t))) s') → codeAny (model prog w) A (.builtin "math.fsum.loop" ⟨[.ref I, .ref T, .ref S], []⟩) R s := by
  intro k
  induction k with
  | zero =>
    intro i s ps T S c1 c2 hk hi hst hps hT hS gT gS hok hR
    have hin : i = xs.length := by (first | grind | omega)
    subst hin
    rw [List.drop_length] at hR
    refine codeAny_builtin entry_fsum_loop ?_
    rw [Around.under_plainId plain_fsum_loop _]
    show wpAny _ A.in1 ((seqItems? (.ref T) >>= fun o => pure ((o.getD #[]).toList.map fun v => match v with | Value.int i _ => i.toNat.toUInt64 | _ => 0)) >>= _) _ _ s
    refine wpAny_bind (wpAny_bind (wpAny_seqItems gT rfl (wpAny_pure ?_)))
    rw [unpack_map]
    show wpAny _ A.in1 ((seqItems? (.ref S) >>= fun o => pure ((o.getD #[]).toList.map fun v => match v with | Value.int i _ => i.toNat.toUInt64 | _ => 0)) >>= _) _ _ s
    refine wpAny_bind (wpAny_bind (wpAny_seqItems gS rfl (wpAny_pure ?_)))
    rw [unpack_map]
    show wpAny _ A.in1 (pyNext (.ref I) >>= _) _ _ s
    refine wpAny_bind (W.done s _ _ hst fun s' hm => ?_)
    show wpAny _ A.in1 (if (!Float64.isZero (Float64.zero false)) = true then _ else _) _ _ s'
    rw [if_neg (by decide +kernel)]
    show wpAny _ A.in1 (Builtin.Float.retFloat _) _ _ s'
    exact wpAny_bind (Flt.wp_mkFloat (wpAny_pure (hR _ _ ⟨hm.heap, hm.gens, hm.drawn, hm.os, Nat.le_succ_of_le hm.toks⟩)))
  | succ k ih =>
    intro i s ps T S c1 c2 hk hi hst hps hT hS gT gS hok hR
    have hlt : i < xs.length := by (first | grind | omega)
    have wlt : ∀ b ∈ wr, b < B := fun b hb => hB b (W.sub b hb)
    refine codeAny_builtin entry_fsum_loop ?_
    rw [Around.under_plainId plain_fsum_loop _]
    show wpAny _ A.in1 ((seqItems? (.ref T) >>= fun o => pure ((o.getD #[]).toList.map fun v => match v with | Value.int i _ => i.toNat.toUInt64 | _ => 0)) >>= _) _ _ s
    refine wpAny_bind (wpAny_bind (wpAny_seqItems gT rfl (wpAny_pure ?_)))
    rw [unpack_map]
    show wpAny _ A.in1 ((seqItems? (.ref S) >>= fun o => pure ((o.getD #[]).toList.map fun v => match v with | Value.int i _ => i.toNat.toUInt64 | _ => 0)) >>= _) _ _ s
    refine wpAny_bind (wpAny_bind (wpAny_seqItems gS rfl (wpAny_pure ?_)))
    rw [unpack_map]
    show wpAny _ A.in1 (pyNext (.ref I) >>= _) _ _ s
    refine wpAny_bind (W.item i s _ _ hlt hst fun v s' hP hst' hm => ?_)
    obtain ⟨a, ha, hv⟩ := hval i v hP
    have hdrop : xs.drop i = a :: xs.drop (i + 1) := by
      rw [List.drop_eq_getElem_cons hlt]; congr 1; exact Option.some.inj ((List.getElem?_eq_getElem hlt).symm.trans ha)
    rw [hdrop] at hok hR
    simp only [List.map_cons, List.foldl_cons, fsumOk] at hok hR
    have hmem : a ∈ xs := List.mem_of_getElem? ha
    refine wpAny_bind (wpAny_holding (realArg_nm hA hv (hfit a hmem) fun tk htk => ?_))
    show wpAny _ A.in1 (if Float64.isFinite (Float64.fsumAdd ps a.real).2 = true then _ else _) _ _ _
    rw [if_pos hok.1]
    show wpAny _ A.in1 (newTuple ((fsumStep ps a.real).map fun x => rawInt x.toNat) >>= _) _ _ _
    have hl2 := fsumStep_len ps a.real
    refine wpAny_bind (packBits_wp (by (first | grind | omega)) ?_)
    refine wpAny_pure ⟨plainId_quiet plain_fsum_loop _, ?_⟩
    have hT' : ¬ T ∈ wr := fun q => Nat.lt_irrefl _ (Nat.lt_of_lt_of_le (wlt _ q) hT)
    have hS' : ¬ S ∈ wr := fun q => Nat.lt_irrefl _ (Nat.lt_of_lt_of_le (wlt _ q) hS)
    have gS' := hm.heap S _ hS' gS
    have hBs : B ≤ s'.heap.objs.size := Nat.le_trans hS (Nat.le_of_lt (Heap.lt_size gS'))
    refine ih (i + 1) _ (fsumStep ps a.real) s'.heap.objs.size S 0 c2 (by (first | grind | omega)) (by (first | grind | omega)) (W.frame _ s' _ tk hst' htk fun b _ o e => Heap.get?_push_of_some _ e) (by (first | grind | omega)) hBs hS (Heap.get?_push_size _ rfl) (Heap.get?_push_of_some _ gS') hok.2 fun s'' t hm2 => hR s'' t ?_
    exact Moved.trans W.gtrans (hm.then_heap htk fun b o _ e => Heap.get?_push_of_some _ e) hm2

theorem call_fsum {xs : List Nm} {x : Value} {E : Value → Shared → Prop} {s : Shared} {Q : Value → Shared → Prop} (hA : A.handled = none) (hfit : ∀ a ∈ xs, a.fits) (hlen : xs.length < sizeLine) (hok : fsumOk [] (xs.map Nm.real))
    (h : wpAny (model prog w) A.in1 (pyIter x) (fun it s₂ => ∃ I fp wr G P St, it = .ref I ∧ WalksS prog w A.in1 I fp wr G xs.length P St ∧ St 0 s₂ ∧ (∀ b ∈ fp, b < s₂.heap.objs.size) ∧ (∀ i v, P i v → ∃ a, xs[i]? = some a ∧ NmIs v a) ∧
      ∀ s' t, Moved wr G s₂ s' → Q (.float (fsumP (xs.map Nm.real)) t) s') E s) :
    wpAny (model prog w) A (call (.builtin "math.fsum") [x]) Q E s := by
  refine call_function_tree kind_fsum plain_fsum entry_fsum (args_fsum _) ?_
  unfold Builtin.«math.fsum»
  refine wpAny_bind (m := Builtin.Math.mathOne "fsum" _) (wpAny_pure ?_)
  refine wpAny_bind (wpAny_mono h (fun it s₂ h₂ => ?_) fun _ _ e => e)
  obtain ⟨I, fp, wr, G, P, St, rfl, W, hst, hfp, hval, hQ⟩ := h₂
  refine wpAny_bind (packBits_wp (xs := []) (by simp) ?_)
  refine wpAny_bind (packBits_wp (xs := [Float64.zero false, Float64.zero false]) (by show 2 ≤ sizeLine; decide) ?_)
  refine wpAny_pure ⟨plainId_quiet plain_fsum_loop _, ?_⟩
  refine codeAny_fsum_loop hA W hval hfit hlen s₂.heap.objs.size hfp xs.length 0 _ [] s₂.heap.objs.size (s₂.heap.push (bitsTup [] 0)).objs.size 0 0 (by (first | grind | omega)) (by (first | grind | omega))
    (W.frame 0 s₂ _ s₂.toks hst (Nat.le_refl _) fun b _ o e => Heap.get?_push_of_some _ (Heap.get?_push_of_some _ e)) (Nat.le_refl _) (Nat.le_refl _) (by rw [Heap.size_push]; (first | grind | omega))
    (Heap.get?_push_of_some _ (Heap.get?_push_size _ rfl)) (Heap.get?_push_size _ rfl) (by simpa using hok) fun s' t hm => ?_
  refine hQ s' t ⟨fun b o hb e => hm.heap b o hb (Heap.get?_push_of_some _ (Heap.get?_push_of_some _ e)), hm.gens, hm.drawn, hm.os, hm.toks⟩
end
end Mine
end
theorem Mine.anewSp : True := by
  w_top off
  exact trivial
section
open PySem PySem.W PySem.Calls PyProof.Rows
set_option Elab.async false
set_option maxRecDepth 100000
namespace Mine

def dot : List Int → List Int → Int
  | a :: xs, b :: ys => a * b + dot xs ys
  | _, _ => 0
def dotN (xs ys : List Int) (i : Nat) : Int := dot (xs.take i) (ys.take i)
theorem dot_snoc : ∀ (xs ys : List Int) (a b : Int), xs.length = ys.length → dot (xs ++ [a]) (ys ++ [b]) = dot xs ys + a * b
  | [], [], a, b, _ => by simp [dot]
  | x :: xs, y :: ys, a, b, h => by
    simp only [List.cons_append, dot]
    rw [dot_snoc xs ys a b (by simpa using h)]; (first | grind | omega)
  | [], _ :: _, _, _, h => by simp at h
  | _ :: _, [], _, _, h => by simp at h
theorem dotN_succ {xs ys : List Int} {i : Nat} {a b : Int} (ha : xs[i]? = some a) (hb : ys[i]? = some b) : dotN xs ys (i + 1) = dotN xs ys i + a * b := by
  unfold dotN
  have h1 : i < xs.length := (List.getElem?_eq_some_iff.mp ha).1
  have h2 : i < ys.length := (List.getElem?_eq_some_iff.mp hb).1
  rw [List.take_add_one, List.take_add_one, ha, hb]
  exact dot_snoc _ _ _ _ (by simp; (first | lia | omega))
theorem dotN_all {xs ys : List Int} (h : xs.length = ys.length) : dotN xs ys xs.length = dot xs ys := by
  unfold dotN
  rw [List.take_length, h, List.take_length]

theorem kind_sp : builtinKind "math.sumprod" = none := by decide +kernel
theorem plain_sp : plainId "math.sumprod" = true := by decide +kernel
theorem entry_sp : entryFor table "math.sumprod" = some Builtin.«math.sumprod» := entryFor_of_fast (by kernel_rfl)
theorem args_sp (a b : Value) : argsOk "math.sumprod" ⟨[a, b], []⟩ := by unfold argsOk; kernel_rfl
theorem plain_sp_loop : plainId "math.sumprod.loop" = true := by decide +kernel
theorem entry_sp_loop : entryFor table "math.sumprod.loop" = some Builtin.«math.sumprod.loop» := entryFor_of_fast (by kernel_rfl)

abbrev triTup (t : UInt64 × UInt64 × UInt64) (n : Nat) : Obj := { cls := .type "tuple", data := .seq #[rawInt t.1.toNat, rawInt t.2.1.toNat, rawInt t.2.2.toNat] n }

/-- two iterators side by side -/
structure Two (prog : Program) (w : World) (A : Around) (I J : Addr) (fp : List Addr) (wr : List Addr) (G : Array GenState → Array GenState → Prop) (n1 n2 : Nat) (P1 P2 : Nat → Value → Prop) (St : Nat → Nat → Shared → Prop) : Prop where
  sub : ∀ b ∈ wr, b ∈ fp
  grefl : ∀ a, G a a
  gtrans : ∀ a b c, G a b → G b c → G a c
  frame : ∀ i j (s : Shared) h' tk, St i j s → s.toks ≤ tk → (∀ b ∈ fp, ∀ o, s.heap.get? b = some o → h'.get? b = some o) → St i j { s with heap := h', toks := tk }
  both : ∀ i (s : Shared) (Q : Option Value → Shared → Prop) (E : Value → Shared → Prop), i < n1 → St i i s →
    (∀ v s', P1 i v → Moved wr G s s' → (∀ (Q' : Option Value → Shared → Prop) (E' : Value → Shared → Prop),
      (i < n2 → ∀ u s'', P2 i u → St (i + 1) (i + 1) s'' → Moved wr G s s'' → Q' (some u) s'') → (i = n2 → ∀ s'', Moved wr G s s'' → Q' none s'') → i ≤ n2 → wpAny (model prog w) A (pyNext (.ref J)) Q' E' s') → Q (some v) s') → wpAny (model prog w) A (pyNext (.ref I)) Q E s
  last : ∀ (s : Shared) (Q : Option Value → Shared → Prop) (E : Value → Shared → Prop), St n1 n1 s →
    (∀ s', Moved wr G s s' → (∀ (Q' : Option Value → Shared → Prop) (E' : Value → Shared → Prop),
      (n1 < n2 → ∀ u s'', P2 n1 u → Moved wr G s s'' → Q' (some u) s'') → (n1 = n2 → ∀ s'', Moved wr G s s'' → Q' none s'') → n1 ≤ n2 → wpAny (model prog w) A (pyNext (.ref J)) Q' E' s') → Q none s') → wpAny (model prog w) A (pyNext (.ref I)) Q E s

/-- the error that a call hands on -/
def Raised (wr : List Addr) (G : Array GenState → Array GenState → Prop) (cls : String) (E : Value → Shared → Prop) (s : Shared) : Prop :=
  ∀ s' h' tk e, Moved wr G s s' → Heap.NewExc s'.heap h' e cls → E (.ref e) { s' with heap := h', toks := tk }

inductive SpAt (acc : Int) (i : Nat) : Value → Bool → Int → Bool → Bool → Prop
  | spI (t : Tok) : SpAt acc i (.int 0 t) true acc (decide (0 < i)) true
  | spP (t : Tok) : SpAt acc i (.int acc t) false 0 false false

theorem ite_yes {α : Type} {M : Model} {A : Around} {E : Value → Shared → Prop} {s : Shared} {c : Prop} [Decidable c] {a b : Sem α} {Q : α → Shared → Prop} (hc : c) (h : wpAny M A a Q E s) : wpAny M A (if c then a else b) Q E s := by rw [if_pos hc]; exact h
theorem ite_no {α : Type} {M : Model} {A : Around} {E : Value → Shared → Prop} {s : Shared} {c : Prop} [Decidable c] {a b : Sem α} {Q : α → Shared → Prop} (hc : ¬ c) (h : wpAny M A b Q E s) : wpAny M A (if c then a else b) Q E s := by rw [if_neg hc]; exact h

section
variable {prog : Program} {w : World} {A : Around} {R : Result → Shared → Prop} {I J : Addr} {fp wr : List Addr} {G : Array GenState → Array GenState → Prop} {P1 P2 : Nat → Value → Prop} {St : Nat → Nat → Shared → Prop}

theorem toks_then {s' : Shared} {s : Shared} (x : Moved wr G s s') {tk : Nat} (h : s'.toks ≤ tk) : Moved wr G s { s' with toks := tk } :=
  ⟨x.heap, x.gens, x.drawn, x.os, Nat.le_trans x.toks h⟩

theorem codeAny_sp_ints {xs ys : List Int} (hA : A.handled = none) (W : Two prog w A.in1 I J fp wr G xs.length ys.length P1 P2 St) (hv1 : ∀ i v, P1 i v → ∃ a t, xs[i]? = some a ∧ v = .int a t) (hv2 : ∀ i v, P2 i v → ∃ a t, ys[i]? = some a ∧ v = .int a t)
    (hmul : ∀ (i : Nat) a b, xs[i]? = some a → ys[i]? = some b → IntMulOk a b) (B : Nat) (hB : ∀ b ∈ fp, b < B) :
    ∀ (k i : Nat) (s : Shared) (tot : Value) (io : Bool) (sm : Int) (iu fo : Bool) (T : Addr) (tri : UInt64 × UInt64 × UInt64) (c : Nat), xs.length - i = k → i ≤ xs.length → i ≤ ys.length → St i i s → SpAt (dotN xs ys i) i tot io sm iu fo →
    B ≤ T → s.heap.get? T = some (triTup tri c) →
    (xs.length = ys.length → ∀ s' t, Moved wr G s s' → R (.ok (.ret (.int (dot xs ys) t))) s') → (xs.length ≠ ys.length → Raised wr G "ValueError" (fun e s' => R (.error e) s') s) →
    codeAny (model prog w) A (.builtin "math.sumprod.loop" ⟨[.ref I, .ref J, tot, .bool io, rawInt sm, .bool iu, .bool fo, .ref T, .bool false], []⟩) R s := by
  have wlt : ∀ b ∈ wr, b < B := fun b hb => hB b (W.sub b hb)
  intro k
  induction k with
  | zero =>
    intro i s tot io sm iu fo T tri c hk hi hj hst hat hT gT hR hE
    have hin : i = xs.length := by (first | lia | omega)
    subst hin
    refine codeAny_builtin entry_sp_loop ?_
    rw [Around.under_plainId plain_sp_loop _]
    unfold Builtin.«math.sumprod.loop»
    dsimp only [rawInt]
    refine wpAny_bind (wpAny_seqItems gT rfl ?_)
    dsimp only [Option.getD, rawInt]
    refine wpAny_bind (W.last s _ _ hst fun s' hm hq => ?_)
    refine wpAny_bind (wpAny_holding (hq _ _ (fun hlt u s'' hu hm' => ?_) (fun he s'' hm' => ?_) hj))
    · refine ite_yes rfl ?_
      refine wpAny_bind (wpAny_rule ?_)
      refine wpAny_bind (wpAny_raiseErrorWords plainExc_ValueError hA fun h' tk e hx => ?_)
      exact hE (by (first | lia | omega)) s'' h' tk e hm' hx
    · refine ite_no (by decide) ?_
      dsimp only
      rw [dotN_all he] at hat
      cases hat with
      | spI t =>
        simp only [if_true]
        refine wpAny_bind (wpAny_rule ?_)
        by_cases h0 : 0 < xs.length
        · simp only [h0, decide_true, if_true]
          refine wpAny_bind (wpAny_mkInt (wpAny_bind (wpAny_holding (wpAny_add_int ?_))))
          refine wpAny_bind (wpAny_rule ?_)
          simp only [Bool.false_eq_true, if_false]
          rw [Int.zero_add]
          exact wpAny_pure (hR he _ _ (toks_then hm' (by show s''.toks ≤ s''.toks + 1 + 1; (first | lia | omega))))
        · have hx0 : xs = [] := List.eq_nil_of_length_eq_zero (by (first | lia | omega))
          subst hx0
          simp only [List.length_nil, Nat.lt_irrefl, decide_false, Bool.false_eq_true, if_false]
          refine wpAny_bind (wpAny_rule ?_)
          exact wpAny_pure (hR he _ _ hm')
      | spP t =>
        simp only [Bool.false_eq_true, if_false]
        exact wpAny_pure (hR he _ _ hm')
  | succ k ih =>
    intro i s tot io sm iu fo T tri c hk hi hj hst hat hT gT hR hE
    have hlt : i < xs.length := by (first | lia | omega)
    refine codeAny_builtin entry_sp_loop ?_
    rw [Around.under_plainId plain_sp_loop _]
    unfold Builtin.«math.sumprod.loop»
    dsimp only [rawInt]
    refine wpAny_bind (wpAny_seqItems gT rfl ?_)
    dsimp only [Option.getD, rawInt]
    refine wpAny_bind (W.both i s _ _ hlt hst fun v s' hp hm hq => ?_)
    refine wpAny_bind (wpAny_holding (hq _ _ (fun hlt2 u s'' hu hst' hm' => ?_) (fun he s'' hm' => ?_) hj))
    · obtain ⟨a, ta, ha, rfl⟩ := hv1 i v hp
      obtain ⟨b, tb, hb, rfl⟩ := hv2 i u hu
      have hT' : ¬ T ∈ wr := fun q => Nat.lt_irrefl _ (Nat.lt_of_lt_of_le (wlt _ q) hT)
      have gT' := hm'.heap T _ hT' gT
      have hsum := dotN_succ ha hb
      have fin : ∀ (tk : Nat) (tot' : Value) (io' : Bool) (sm' : Int) (iu' fo' : Bool), s''.toks ≤ tk → SpAt (dotN xs ys (i + 1)) (i + 1) tot' io' sm' iu' fo' →
          codeAny (model prog w) A (.builtin "math.sumprod.loop" ⟨[.ref I, .ref J, tot', .bool io', rawInt sm', .bool iu', .bool fo', .ref T, .bool false], []⟩) R { s'' with toks := tk } := by
        intro tk tot' io' sm' iu' fo' htk hat'
        refine ih (i + 1) _ tot' io' sm' iu' fo' T tri c (by (first | lia | omega)) (by (first | lia | omega)) (by (first | lia | omega)) (W.frame _ _ s'' _ tk hst' htk fun _ _ _ e => e) hat' hT gT' (fun h3 s3 t hm3 => hR h3 s3 t ?_) (fun h3 s3 h' tk3 e hm3 hx => hE h3 s3 h' tk3 e ?_ hx)
        · exact Moved.trans W.gtrans (toks_then hm' htk) hm3
        · exact Moved.trans W.gtrans (toks_then hm' htk) hm3
      refine ite_no (by simp) ?_
      dsimp only
      cases hat with
      | spI t =>
        simp only [if_true]
        refine wpAny_ite ?_
        split
        · refine wpAny_pure ⟨plainId_quiet plain_sp_loop _, ?_⟩
          have := fin s''.toks (.int 0 t) true (dotN xs ys i + a * b) true true (Nat.le_refl _) (by
            have q := SpAt.spI (acc := dotN xs ys (i + 1)) (i := i + 1) t
            rw [hsum] at q ⊢
            simpa using q)
          exact this
        · refine wpAny_bind (wpAny_rule ?_)
          by_cases h0 : 0 < i
          · simp only [h0, decide_true, if_true]
            refine wpAny_bind (wpAny_mkInt (wpAny_bind (wpAny_holding (wpAny_add_int ?_))))
            simp only [Bool.or_self, Bool.false_eq_true, if_false]
            refine wpAny_bind (wpAny_rule ?_)
            refine wpAny_bind (wpAny_holding (PyProof.Rows.mul_int ?_ (hmul i a b ha hb)))
            refine wpAny_bind (wpAny_holding (wpAny_add_int ?_))
            refine wpAny_pure ⟨plainId_quiet plain_sp_loop _, ?_⟩
            rw [Int.zero_add, ← hsum]
            exact fin _ _ false 0 false false (by show s''.toks ≤ s''.toks + 1 + 1 + 1 + 1; (first | lia | omega)) (.spP _)
          · have hi0 : i = 0 := by (first | lia | omega)
            simp only [h0, decide_false, Bool.false_eq_true, if_false]
            simp only [Bool.or_self, Bool.false_eq_true, if_false]
            refine wpAny_bind (wpAny_rule ?_)
            refine wpAny_bind (wpAny_holding (PyProof.Rows.mul_int ?_ (hmul i a b ha hb)))
            refine wpAny_bind (wpAny_holding (wpAny_add_int ?_))
            refine wpAny_pure ⟨plainId_quiet plain_sp_loop _, ?_⟩
            have e0 : dotN xs ys i = 0 := by rw [hi0]; rfl
            rw [show (0 : Int) + a * b = dotN xs ys (i + 1) by rw [hsum, e0]]
            exact fin _ _ false 0 false false (by show s''.toks ≤ s''.toks + 1 + 1; (first | lia | omega)) (.spP _)
      | spP t =>
        simp only [Bool.false_eq_true, if_false]
        refine wpAny_bind (wpAny_holding (PyProof.Rows.mul_int ?_ (hmul i a b ha hb)))
        refine wpAny_bind (wpAny_holding (wpAny_add_int ?_))
        refine wpAny_pure ⟨plainId_quiet plain_sp_loop _, ?_⟩
        rw [← hsum]
        exact fin _ _ false 0 false false (by show s''.toks ≤ s''.toks + 1 + 1; (first | lia | omega)) (.spP _)
    · refine ite_yes rfl ?_
      refine wpAny_bind (wpAny_rule ?_)
      refine wpAny_bind (wpAny_raiseErrorWords plainExc_ValueError hA fun h' tk e hx => ?_)
      exact hE (by (first | lia | omega)) s'' h' tk e hm' hx

/-- the threefold sum of floats -/
def triFold (t : UInt64 × UInt64 × UInt64) : List (UInt64 × UInt64) → UInt64 × UInt64 × UInt64
  | [] => t
  | (x, y) :: r => triFold (Builtin.Math.tlFma x y t) r
def triOk (t : UInt64 × UInt64 × UInt64) : List (UInt64 × UInt64) → Prop
  | [] => True
  | (x, y) :: r => Float64.isFinite (Builtin.Math.tlFma x y t).1 = true ∧ triOk (Builtin.Math.tlFma x y t) r
def zero3 : UInt64 × UInt64 × UInt64 := (Float64.zero false, Float64.zero false, Float64.zero false)
/-- what math.sumprod gives of numbers, in each pair of which is a float -/
def sprodF (ps : List (UInt64 × UInt64)) : Nm := match ps with
  | [] => .i 0
  | ps => .f (Float64.add (Float64.ofInt 0) (Builtin.Math.tlToFloat (triFold zero3 ps)))

theorem fits_zero : ¬ Float64.isInf (Float64.ofInt 0) = true := by decide +kernel
theorem not_inf_of_fits {n : Int} (h : (Nm.i n).fits) : ¬ Float64.isInf (Float64.ofInt n) = true := Flt.fin_of_fits h

theorem codeAny_sp_flts {xs ys : List Nm} (hA : A.handled = none) (hlen : xs.length = ys.length) (W : Two prog w A.in1 I J fp wr G xs.length ys.length P1 P2 St) (hv1 : ∀ i v, P1 i v → ∃ a, xs[i]? = some a ∧ NmIs v a) (hv2 : ∀ i v, P2 i v → ∃ a, ys[i]? = some a ∧ NmIs v a)
    (hf1 : ∀ a ∈ xs, a.fits) (hf2 : ∀ a ∈ ys, a.fits) (hone : ∀ (i : Nat) a b, xs[i]? = some a → ys[i]? = some b → (a.isf || b.isf) = true) (B : Nat) (hB : ∀ b ∈ fp, b < B) :
    ∀ (k i : Nat) (s : Shared) (io : Bool) (fu : Bool) (T : Addr) (tri : UInt64 × UInt64 × UInt64) (c : Nat) (t0 : Tok), xs.length - i = k → i ≤ xs.length → St i i s → (i = 0 → fu = false) → (0 < i → fu = true) →
    B ≤ T → s.heap.get? T = some (triTup tri c) → triOk tri (((xs.drop i).map Nm.real).zip ((ys.drop i).map Nm.real)) →
    (∀ s' v, NmIs v (if xs.length = 0 then .i 0 else .f (Float64.add (Float64.ofInt 0) (Builtin.Math.tlToFloat (triFold tri (((xs.drop i).map Nm.real).zip ((ys.drop i).map Nm.real)))))) → Moved wr G s s' → R (.ok (.ret v)) s') →
    codeAny (model prog w) A (.builtin "math.sumprod.loop" ⟨[.ref I, .ref J, .int 0 t0, .bool io, rawInt 0, .bool false, .bool true, .ref T, .bool fu], []⟩) R s := by
  have wlt : ∀ b ∈ wr, b < B := fun b hb => hB b (W.sub b hb)
  have back : ∀ x : UInt64, ((x.toNat : Int)).toNat.toUInt64 = x := fun x => by simp
  intro k
  induction k with
  | zero =>
    intro i s io fu T tri c t0 hk hi hst hu0 hu1 hT gT hok hR
    have hin : i = xs.length := by (first | lia | omega)
    subst hin
    rw [List.drop_length] at hR
    refine codeAny_builtin entry_sp_loop ?_
    rw [Around.under_plainId plain_sp_loop _]
    unfold Builtin.«math.sumprod.loop»
    dsimp only [rawInt]
    refine wpAny_bind (wpAny_seqItems gT rfl ?_)
    dsimp only [Option.getD, rawInt]
    rw [back tri.1, back tri.2.1, back tri.2.2]
    refine wpAny_bind (W.last s _ _ hst fun s' hm hq => ?_)
    refine wpAny_bind (wpAny_holding (hq _ _ (fun hlt u s'' hu hm' => absurd hlt (by (first | lia | omega))) (fun he s'' hm' => ?_) (by (first | lia | omega))))
    refine ite_no (by decide) ?_
    dsimp only
    have rest : wpAny (model prog w) A.in1 (rule "math.sumprod.leaves-floats" >>= fun _ => if fu = true then (mkFloat (Builtin.Math.tlToFloat tri) >>= fun z => holding (Value.int 0 t0 :: ([] : List Value)) (binaryOp Operator.Add (.int 0 t0) z) >>= fun total => ret total) else ret (.int 0 t0))
        (fun fin s' => match fin with | .done f => R (.ok f) s' | .again c' => c'.quiet = true ∧ codeAny (model prog w) A c' R s') (fun e s' => R (.error e) s') s'' := by
      refine wpAny_bind (wpAny_rule ?_)
      by_cases h0 : 0 < xs.length
      · rw [hu1 h0]
        refine ite_yes rfl ?_
        refine wpAny_bind (Flt.wp_mkFloat (wpAny_bind (wpAny_holding (AutoFloatOps.add_if_1 fits_zero ?_))))
        refine wpAny_pure (hR _ _ ?_ (toks_then hm' (tk := s''.toks + 1 + 1) (by (first | lia | omega))))
        rw [if_neg (by (first | lia | omega))]
        exact ⟨_, rfl⟩
      · rw [hu0 (by (first | lia | omega))]
        refine ite_no (by decide) ?_
        refine wpAny_pure (hR _ _ ?_ hm')
        rw [if_pos (by (first | lia | omega))]
        exact ⟨_, rfl⟩
    cases io with
    | true =>
      refine ite_yes rfl ?_
      refine wpAny_bind (wpAny_rule ?_)
      exact rest
    | false => exact rest
  | succ k ih =>
    intro i s io fu T tri c t0 hk hi hst hu0 hu1 hT gT hok hR
    have hlt : i < xs.length := by (first | lia | omega)
    have hltj : i < ys.length := by (first | lia | omega)
    refine codeAny_builtin entry_sp_loop ?_
    rw [Around.under_plainId plain_sp_loop _]
    unfold Builtin.«math.sumprod.loop»
    dsimp only [rawInt]
    refine wpAny_bind (wpAny_seqItems gT rfl ?_)
    dsimp only [Option.getD, rawInt]
    rw [back tri.1, back tri.2.1, back tri.2.2]
    refine wpAny_bind (W.both i s _ _ hlt hst fun v s' hp hm hq => ?_)
    refine wpAny_bind (wpAny_holding (hq _ _ (fun hlt2 u s'' hu hst' hm' => ?_) (fun he s'' hm' => absurd he (by (first | lia | omega))) (by (first | lia | omega))))
    obtain ⟨a, ha, hva⟩ := hv1 i v hp
    obtain ⟨b, hb, hvb⟩ := hv2 i u hu
    have hT' : ¬ T ∈ wr := fun q => Nat.lt_irrefl _ (Nat.lt_of_lt_of_le (wlt _ q) hT)
    have gT' := hm'.heap T _ hT' gT
    have d1 : xs.drop i = a :: xs.drop (i + 1) := by
      rw [List.drop_eq_getElem_cons hlt]; congr 1; exact Option.some.inj ((List.getElem?_eq_getElem hlt).symm.trans ha)
    have d2 : ys.drop i = b :: ys.drop (i + 1) := by
      rw [List.drop_eq_getElem_cons hltj]; congr 1; exact Option.some.inj ((List.getElem?_eq_getElem hltj).symm.trans hb)
    rw [d1, d2] at hok hR
    simp only [List.map_cons, List.zip_cons_cons, triOk, triFold] at hok hR
    have fa := hf1 a (List.mem_of_getElem? ha)
    have fb := hf2 b (List.mem_of_getElem? hb)
    have hab := hone i a b ha hb
    refine ite_no (by simp) ?_
    dsimp only
    have turn : wpAny (model prog w) A.in1 (newTuple [rawInt (Builtin.Math.tlFma a.real b.real tri).1.toNat, rawInt (Builtin.Math.tlFma a.real b.real tri).2.1.toNat, rawInt (Builtin.Math.tlFma a.real b.real tri).2.2.toNat] >>= fun t => again (.builtin "math.sumprod.loop" ⟨[.ref I, .ref J, .int 0 t0, .bool false, .int 0 0, .bool false, .bool true, t, .bool true], []⟩))
        (fun fin s' => match fin with | .done f => R (.ok f) s' | .again c' => c'.quiet = true ∧ codeAny (model prog w) A c' R s') (fun e s' => R (.error e) s') s'' := by
      refine wpAny_bind (wpAny_newObj_type (wpAny_pure ⟨plainId_quiet plain_sp_loop _, ?_⟩) (by show 3 ≤ sizeLine; decide))
      have hBs : B ≤ s''.heap.objs.size := Nat.le_trans hT (Nat.le_of_lt (Heap.lt_size gT'))
      refine ih (i + 1) _ false true s''.heap.objs.size _ 0 t0 (by (first | lia | omega)) (by (first | lia | omega)) (W.frame _ _ s'' _ s''.toks hst' (Nat.le_refl _) fun b _ o e => Heap.get?_push_of_some _ e) (by (first | lia | omega)) (fun _ => rfl) hBs (Heap.get?_push_size _ rfl) hok.2 fun s3 v3 hv3 hm3 => hR s3 v3 hv3 ?_
      exact Moved.trans W.gtrans (hm'.then_heap (Nat.le_refl _) fun b o _ e => Heap.get?_push_of_some _ e) hm3
    have goes : wpAny (model prog w) A.in1 (if Float64.isFinite (Builtin.Math.tlFma a.real b.real tri).1 = true then (newTuple [rawInt (Builtin.Math.tlFma a.real b.real tri).1.toNat, rawInt (Builtin.Math.tlFma a.real b.real tri).2.1.toNat, rawInt (Builtin.Math.tlFma a.real b.real tri).2.2.toNat] >>= fun t => again (.builtin "math.sumprod.loop" ⟨[.ref I, .ref J, .int 0 t0, .bool false, .int 0 0, .bool false, .bool true, t, .bool true], []⟩)) else unsupported "x")
        (fun fin s' => match fin with | .done f => R (.ok f) s' | .again c' => c'.quiet = true ∧ codeAny (model prog w) A c' R s') (fun e s' => R (.error e) s') s'' := ite_yes hok.1 turn
    cases a with
    | i n =>
      cases b with
      | i m => cases hab
      | f y =>
        obtain ⟨t1, rfl⟩ := hva
        obtain ⟨t2, rfl⟩ := hvb
        cases io with
        | true =>
          refine ite_yes rfl ?_
          refine wpAny_bind (wpAny_rule ?_)
          refine ite_no Bool.false_ne_true ?_
          refine ite_yes (by first | rfl | trivial) ?_
          refine ite_yes (by first | rfl | trivial) ?_
          dsimp only
          rw [if_neg (not_inf_of_fits fa)]
          exact ite_yes hok.1 turn
        | false =>
          refine ite_no Bool.false_ne_true ?_
          refine ite_yes (by first | rfl | trivial) ?_
          refine ite_yes (by first | rfl | trivial) ?_
          dsimp only
          rw [if_neg (not_inf_of_fits fa)]
          exact ite_yes hok.1 turn
    | f x =>
      cases b with
      | i m =>
        obtain ⟨t1, rfl⟩ := hva
        obtain ⟨t2, rfl⟩ := hvb
        cases io with
        | true =>
          refine ite_yes rfl ?_
          refine wpAny_bind (wpAny_rule ?_)
          refine ite_no Bool.false_ne_true ?_
          refine ite_yes (by first | rfl | trivial) ?_
          refine ite_yes (by first | rfl | trivial) ?_
          dsimp only
          rw [if_neg (not_inf_of_fits fb)]
          exact ite_yes hok.1 turn
        | false =>
          refine ite_no Bool.false_ne_true ?_
          refine ite_yes (by first | rfl | trivial) ?_
          refine ite_yes (by first | rfl | trivial) ?_
          dsimp only
          rw [if_neg (not_inf_of_fits fb)]
          exact ite_yes hok.1 turn
      | f y =>
        obtain ⟨t1, rfl⟩ := hva
        obtain ⟨t2, rfl⟩ := hvb
        cases io with
        | true =>
          refine ite_yes rfl ?_
          refine wpAny_bind (wpAny_rule ?_)
          refine ite_no Bool.false_ne_true ?_
          refine ite_yes (by first | rfl | trivial) ?_
          refine ite_yes (by first | rfl | trivial) ?_
          exact ite_yes hok.1 turn
        | false =>
          refine ite_no Bool.false_ne_true ?_
          refine ite_yes (by first | rfl | trivial) ?_
          refine ite_yes (by first | rfl | trivial) ?_
          exact ite_yes hok.1 turn
end
end Mine
end
theorem Mine.anewSp2 : True := by
  w_top off
  exact trivial
section
open PySem PySem.W PySem.Calls PyProof.Rows
set_option Elab.async false
set_option maxRecDepth 100000
namespace Mine
section
variable {prog : Program} {w : World} {A : Around} {E : Value → Shared → Prop} {s : Shared}
/-- an answer's end of a call -/
abbrev RetQ (Q E : Value → Shared → Prop) : Result → Shared → Prop := fun r s' => match r with
  | .ok (.ret v) => Q v s'
  | .ok _ => False
  | .error e => E e s'

theorem call_sp_enter {p q : Value} {Q : Value → Shared → Prop} (h : wpAny (model prog w) A.in1 (pyIter p) (fun it s₁ => wpAny (model prog w) A.in1 (pyIter q) (fun jt s₂ =>
      codeAny (model prog w) A (.builtin "math.sumprod.loop" ⟨[it, jt, .int 0 s₂.toks, .bool true, rawInt 0, .bool false, .bool true, .ref s₂.heap.objs.size, .bool false], []⟩) (RetQ Q E) { s₂ with heap := s₂.heap.push (triTup zero3 0), toks := s₂.toks + 1 }) E s₁) E s) :
    wpAny (model prog w) A (call (.builtin "math.sumprod") [p, q]) Q E s := by
  refine call_function_tree kind_sp plain_sp entry_sp (args_sp _ _) ?_
  unfold Builtin.«math.sumprod»
  refine wpAny_bind (m := Builtin.Math.mathSome "sumprod" 2 2 _) (wpAny_of_eq (a := [p, q]) rfl ?_)
  dsimp only
  refine wpAny_bind (wpAny_mono h (fun it s₁ h₁ => ?_) fun _ _ e => e)
  refine wpAny_bind (wpAny_holding (wpAny_mono h₁ (fun jt s₂ h₂ => ?_) fun _ _ e => e))
  refine wpAny_bind (wpAny_mkInt ?_)
  refine wpAny_bind (wpAny_newObj_type ?_ (by show 3 ≤ sizeLine; decide))
  exact wpAny_pure ⟨plainId_quiet plain_sp_loop _, h₂⟩

theorem Two.of_walks {I J : Addr} {fp1 fp2 wr1 wr2 : List Addr} {n1 n2 : Nat} {P1 P2 : Nat → Value → Prop} {St1 St2 : Nat → Heap → Prop} (W1 : Walks prog w A I fp1 wr1 n1 P1 St1) (W2 : Walks prog w A J fp2 wr2 n2 P2 St2)
    (h12 : ∀ b ∈ wr1, b ∉ fp2) (h21 : ∀ b ∈ wr2, b ∉ fp1) :
    Two prog w A I J (fp1 ++ fp2) (wr1 ++ wr2) (fun a b => b = a) n1 n2 P1 P2 (fun i j s => St1 i s.heap ∧ St2 j s.heap) where
  sub := fun b hb => by
    rcases List.mem_append.mp hb with hb | hb
    · exact List.mem_append_left _ (W1.sub b hb)
    · exact List.mem_append_right _ (W2.sub b hb)
  grefl := fun _ => rfl
  gtrans := fun _ _ _ h1 h2 => h2.trans h1
  frame := fun i j s h' tk st _ hk => ⟨W1.frame i _ _ st.1 fun b hb => hk b (List.mem_append_left _ hb), W2.frame j _ _ st.2 fun b hb => hk b (List.mem_append_right _ hb)⟩
  both := fun i s Q E hi st hQ => wpAny_with_toks (Nat.le_refl s.toks) (W1.item i s _ _ hi st.1 fun v h' tk hP st1 hk htk => by
    have m1 : Moved (wr1 ++ wr2) (fun a b => b = a) s { s with heap := h', toks := tk } := ⟨fun b o hb e => hk b o (fun q => hb (List.mem_append_left _ q)) e, rfl, rfl, rfl, htk⟩
    have st2 : St2 i h' := W2.frame i _ _ st.2 fun b hb o e => hk b o (fun q => h12 b q hb) e
    refine hQ v _ hP m1 fun Q' E' g1 g2 hle => ?_
    rcases Nat.lt_or_ge i n2 with hlt | hge
    · refine wpAny_with_toks (Nat.le_refl tk) (W2.item i _ _ _ hlt st2 fun u h'' tk2 hu st2' hk2 htk2 => g1 hlt u _ hu ⟨W1.frame _ _ _ st1 fun b hb o e => hk2 b o (fun q => h21 b q hb) e, st2'⟩ (Moved.trans (fun _ _ _ h1 h2 => h2.trans h1) m1 ⟨fun b o hb e => hk2 b o (fun q => hb (List.mem_append_right _ q)) e, rfl, rfl, rfl, htk2⟩))
    · have he : i = n2 := Nat.le_antisymm hle hge
      subst he
      exact wpAny_with_toks (Nat.le_refl tk) (W2.done _ _ _ st2 fun h'' tk2 hk2 htk2 => g2 rfl _ (Moved.trans (fun _ _ _ h1 h2 => h2.trans h1) m1 ⟨fun b o hb e => hk2 b o (fun q => hb (List.mem_append_right _ q)) e, rfl, rfl, rfl, htk2⟩)))
  last := fun s Q E st hQ => wpAny_with_toks (Nat.le_refl s.toks) (W1.done s _ _ st.1 fun h' tk hk htk => by
    have m1 : Moved (wr1 ++ wr2) (fun a b => b = a) s { s with heap := h', toks := tk } := ⟨fun b o hb e => hk b o (fun q => hb (List.mem_append_left _ q)) e, rfl, rfl, rfl, htk⟩
    have st2 : St2 n1 h' := W2.frame n1 _ _ st.2 fun b hb o e => hk b o (fun q => h12 b q hb) e
    refine hQ _ m1 fun Q' E' g1 g2 hle => ?_
    rcases Nat.lt_or_ge n1 n2 with hlt | hge
    · exact wpAny_with_toks (Nat.le_refl tk) (W2.item n1 _ _ _ hlt st2 fun u h'' tk2 hu _ hk2 htk2 => g1 hlt u _ hu (Moved.trans (fun _ _ _ h1 h2 => h2.trans h1) m1 ⟨fun b o hb e => hk2 b o (fun q => hb (List.mem_append_right _ q)) e, rfl, rfl, rfl, htk2⟩))
    · have he : n1 = n2 := Nat.le_antisymm hle hge
      subst he
      exact wpAny_with_toks (Nat.le_refl tk) (W2.done _ _ _ st2 fun h'' tk2 hk2 htk2 => g2 rfl _ (Moved.trans (fun _ _ _ h1 h2 => h2.trans h1) m1 ⟨fun b o hb e => hk2 b o (fun q => hb (List.mem_append_right _ q)) e, rfl, rfl, rfl, htk2⟩)))
end
end Mine
end
theorem Mine.anewX1 : True := by
  w_top off
  exact trivial
section
open PySem PySem.Float64
set_option Elab.async false
set_option linter.unusedVariables false
set_option exponentiation.threshold 3000
namespace Mine

theorem pow_cast (k : Nat) : ((2 ^ k : Nat) : Int) = (2 : Int) ^ k := by rw [Int.natCast_pow]; rfl

theorem natAbs_pow (k : Nat) : ((2 : Int) ^ k).natAbs = 2 ^ k := by rw [← pow_cast, Int.natAbs_natCast]
/-- a finite float and its value, in the least unit -/
def Fl (x : UInt64) (z : Int) : Prop := (∃ a m e, decode x = .fin a m e) ∧ val x = z
/-- a magnitude that a float has -/
def Rep (W : Nat) : Prop := ∃ t, t < infMag ∧ V t = W

theorem rep_pow : ∀ (k q : Nat), q ≤ 2 ^ 53 → k ≤ 2044 → Rep (q * 2 ^ k)
  | 0, q, hq, _ => ⟨q, by unfold infMag; (first | lia | omega), by have := V_at (k := 0) hq (.inr rfl); simpa using this⟩
  | k + 1, q, hq, hk => by
    by_cases h : 2 ^ 52 ≤ q
    · refine ⟨(k + 1) * 2 ^ 52 + q, ?_, V_at hq (.inl h)⟩
      unfold infMag
      (first | lia | omega)
    · have := rep_pow k (2 * q) (by (first | lia | omega)) (by (first | lia | omega))
      rw [show q * 2 ^ (k + 1) = 2 * q * 2 ^ k by rw [Nat.pow_succ]; ac_rfl]
      exact this

theorem V_top {t : Nat} (h : t < infMag) : V t ≤ (2 ^ 53 - 1) * 2 ^ 2045 := by
  have e : V (infMag - 1) = (2 ^ 53 - 1) * 2 ^ 2045 := by
    have := V_at (k := 2045) (q := 2 ^ 53 - 1) (by (first | lia | omega)) (.inl (by (first | lia | omega)))
    rw [← this]
    congr 1
  rw [← e]
  exact V_mono (by (first | lia | omega))

theorem dist_self' (a : Nat) : dist a a = 0 := by unfold dist; (first | grind | omega)
theorem eq_of_dist {a b : Nat} (h : dist a b ≤ 0) : a = b := by unfold dist at h; (first | lia | omega)

theorem right_exact {r : UInt64} {neg : Bool} {W D X : Nat} (h : Right r neg W D) (hD : 0 < D) (hW : W = D * X) (hX : Rep X) : Fl r (sgn neg X) := by
  obtain ⟨t, rfl, hle, hov, hn⟩ := h
  obtain ⟨t0, ht0, rfl⟩ := hX
  have hlt : t < infMag := by
    rcases Nat.lt_or_eq_of_le hle with h | h
    · exact h
    · exfalso
      have h1 := hov.mp h
      have h2 := V_top ht0
      rw [hW] at h1
      have h3 : D * ((2 ^ 54 - 1) * 2 ^ 2045) ≤ D * (2 * V t0) := by rw [show D * (2 * V t0) = 2 * (D * V t0) by ac_rfl]; exact h1
      have h4 := Nat.le_of_mul_le_mul_left h3 hD
      have h5 : 2 * V t0 ≤ 2 * ((2 ^ 53 - 1) * 2 ^ 2045) := Nat.mul_le_mul_left 2 h2
      have h6 : 2 * ((2 ^ 53 - 1) * 2 ^ 2045) < (2 ^ 54 - 1) * 2 ^ 2045 := by
        rw [← Nat.mul_assoc]
        exact Nat.mul_lt_mul_of_pos_right (by decide) (Nat.two_pow_pos _)
      (first | lia | omega)
  have hd := (hn hlt t0).1
  rw [hW, dist_self'] at hd
  have hV := Nat.eq_of_mul_eq_mul_left hD (eq_of_dist hd)
  obtain ⟨m, e, hde, _⟩ := decode_pack neg hlt
  exact ⟨⟨neg, m, e, hde⟩, by rw [val_pack neg hlt, hV]⟩

theorem fl_zero (b : Bool) : Fl (zero b) 0 := by
  have h : (0 : Nat) < infMag := by decide
  obtain ⟨m, e, hde, _⟩ := decode_pack b h
  refine ⟨⟨b, m, e, hde⟩, ?_⟩
  show val (pack b 0) = 0
  rw [val_pack b h, V_zero]
  cases b <;> rfl

theorem sgn_natAbs_self (z : Int) : sgn (decide (z < 0)) z.natAbs = z := by
  unfold sgn
  by_cases h : z < 0
  · simp [h]; (first | grind | omega)
  · simp [h]; (first | grind | omega)

theorem fl_add {x y : UInt64} {a b : Int} (hx : Fl x a) (hy : Fl y b) (hr : Rep (a + b).natAbs) : Fl (add x y) (a + b) := by
  obtain ⟨⟨sx, mx, ex, dx⟩, vx⟩ := hx
  obtain ⟨⟨sy, my, ey, dy⟩, vy⟩ := hy
  have h := add_right dx dy
  rw [vx, vy] at h
  by_cases h0 : a + b = 0
  · rw [h.1 h0, h0]; exact fl_zero _
  · have := right_exact (h.2 h0) (by decide) (X := (a + b).natAbs) (by (first | grind | omega)) hr
    rwa [sgn_natAbs_self] at this

theorem fl_neg {x : UInt64} {a : Int} (hx : Fl x a) : Fl (neg x) (-a) := by
  obtain ⟨⟨sx, mx, ex, dx⟩, vx⟩ := hx
  exact ⟨⟨_, _, _, neg_decode dx⟩, by rw [neg_val dx, vx]⟩

theorem fl_sub {x y : UInt64} {a b : Int} (hx : Fl x a) (hy : Fl y b) (hr : Rep (a - b).natAbs) : Fl (sub x y) (a - b) := by
  have h : a - b = a + -b := Int.sub_eq_add_neg
  unfold sub
  rw [h] at hr ⊢
  exact fl_add hx (fl_neg hy) hr

theorem fl_sign {x : UInt64} {s : Bool} {m : Nat} {e : Int} (h : decode x = .fin s m e) : val x = sgn s (val x).natAbs := by
  rw [val_natAbs h, val_eq h]
theorem sgn_xor (a b : Bool) (m k : Nat) : sgn (a != b) (m * k) = sgn a m * sgn b k := by
  unfold sgn
  cases a <;> cases b <;> simp [Int.neg_mul, Int.mul_neg]

theorem fl_mul {x y : UInt64} {a b c : Int} (hx : Fl x a) (hy : Fl y b) (hc : a * b = 2 ^ 1074 * c) (hr : Rep c.natAbs) : Fl (mul x y) c := by
  obtain ⟨⟨sx, mx, ex, dx⟩, vx⟩ := hx
  obtain ⟨⟨sy, my, ey, dy⟩, vy⟩ := hy
  have h := mul_right dx dy
  have hs : sgn (sx != sy) ((val x).natAbs * (val y).natAbs) = a * b := by rw [sgn_xor, ← fl_sign dx, ← fl_sign dy, vx, vy]
  rw [vx, vy] at h hs
  have hab : a.natAbs * b.natAbs = 2 ^ 1074 * c.natAbs := by
    rw [← Int.natAbs_mul, hc, Int.natAbs_mul, natAbs_pow]
  have := right_exact h (Nat.two_pow_pos _) hab hr
  have e : sgn (sx != sy) c.natAbs = c := by
    have hp : ((2 ^ 1074 : Nat) : Int) ≠ 0 := by have := Nat.two_pow_pos 1074; (first | grind | omega)
    apply Int.eq_of_mul_eq_mul_left hp
    have hpc := pow_cast 1074
    rw [hab, Nat.mul_comm, sgn_mul, Int.mul_comm] at hs
    rw [hs, hc, hpc]
  rwa [e] at this

theorem fl_div {x y : UInt64} {a b c : Int} (hx : Fl x a) (hy : Fl y b) (hb : b ≠ 0) (hc : a * 2 ^ 1074 = b * c) (hr : Rep c.natAbs) : Fl (div x y) c := by
  obtain ⟨⟨sx, mx, ex, dx⟩, vx⟩ := hx
  obtain ⟨⟨sy, my, ey, dy⟩, vy⟩ := hy
  have hk : my ≠ 0 := by
    intro h
    have := val_eq dy
    rw [h, Nat.zero_mul] at this
    rw [vy] at this
    apply hb
    rw [this]
    cases sy <;> rfl
  have h := div_right dx dy hk
  have fx := fl_sign dx
  have fy := fl_sign dy
  rw [vx, vy] at h
  rw [vx] at fx
  rw [vy] at fy
  have hab : a.natAbs * 2 ^ 1074 = b.natAbs * c.natAbs := by
    rw [← Int.natAbs_mul, ← hc, Int.natAbs_mul, natAbs_pow]
  have := right_exact h (by (clear hab fy fx h hk dy vy dx vx hr hc; grind)) hab hr
  have e : sgn (sx != sy) c.natAbs = c := by
    apply Int.eq_of_mul_eq_mul_left hb
    rw [← hc]
    have h1 : sgn (sx != sy) a.natAbs * ((2 ^ 1074 : Nat) : Int) = sgn (sx != sy) c.natAbs * (b.natAbs : Int) := by rw [← sgn_mul, ← sgn_mul, hab, Nat.mul_comm]
    rw [← pow_cast]
    generalize ((2 ^ 1074 : Nat) : Int) = K at *
    generalize hcn : (c.natAbs : Int) = C at *
    have e1 : ∀ s : Bool, sgn s a.natAbs = if s then -(a.natAbs : Int) else a.natAbs := fun s => rfl
    have e2 : ∀ s : Bool, sgn s c.natAbs = if s then -C else C := fun s => by unfold sgn; rw [hcn]
    have e3 : ∀ s : Bool, sgn s b.natAbs = if s then -(b.natAbs : Int) else b.natAbs := fun s => rfl
    rw [e1] at fx
    rw [e3] at fy
    rw [e1, e2] at h1
    rw [e2]
    rw [fx, fy]
    generalize (a.natAbs : Int) = P at *
    generalize (b.natAbs : Int) = R at *
    rw [Int.mul_comm _ R] at h1
    cases sx <;> cases sy <;> simp only [Bool.false_eq_true, if_true, if_false, bne_self_eq_false, Bool.true_bne, Bool.false_bne, Bool.not_false, Int.neg_mul, Int.mul_neg, Int.neg_neg] at h1 ⊢ <;> (first | lia | omega)
  rwa [e] at this

theorem fl_ofInt (i : Int) (hr : Rep (i.natAbs * 2 ^ 1074)) : Fl (ofInt i) (i * 2 ^ 1074) := by
  have := right_exact (ofInt_right i) (by decide) (X := i.natAbs * 2 ^ 1074) (by (clear hr; grind)) hr
  rw [sgn_mul, sgn_natAbs_self] at this
  rwa [pow_cast] at this

theorem fl_fin {x : UInt64} {a : Int} (h : Fl x a) : isFinite x = true := by
  obtain ⟨⟨s, m, e, d⟩, _⟩ := h
  unfold isFinite; rw [d]
theorem fl_isZero {x : UInt64} {a : Int} (h : Fl x a) : isZero x = decide (a = 0) := by
  obtain ⟨⟨s, m, e, d⟩, v⟩ := h
  have := val_natAbs d
  rw [v] at this
  unfold isZero; rw [d]
  cases m with
  | zero => simp at this; simp [this]
  | succ m =>
    simp
    intro h
    rw [h] at this
    have hp := Nat.mul_pos (Nat.succ_pos m) (Nat.two_pow_pos (e + 1074).toNat)
    rw [← this] at hp
    exact Nat.lt_irrefl 0 hp
theorem fl_cmp {x y : UInt64} {a b : Int} (hx : Fl x a) (hy : Fl y b) : cmp x y = some (compare a b) := by
  obtain ⟨⟨sx, mx, ex, dx⟩, vx⟩ := hx
  obtain ⟨⟨sy, my, ey, dy⟩, vy⟩ := hy
  rw [cmp_right dx dy, vx, vy]
theorem shift_a {s m p q : Int} (h1 : m ≤ s) (h2 : 0 ≤ m + 2148) (hp : 0 ≤ p) (hq : 0 ≤ q) (e : s + 2148 = p + q) : (s - m).toNat + (m + 2148).toNat = p.toNat + q.toNat := by
  rw [← Int.toNat_add (Int.sub_nonneg_of_le h1) h2, ← Int.toNat_add hp hq]
  congr 1
  omega
theorem ge_min {s z : Int} (h1 : -2148 ≤ s) (h2 : -1074 ≤ z) : 0 ≤ min s z + 2148 := by omega
theorem fl_fma0 {x y z : UInt64} {a b c : Int} (hx : Fl x a) (hy : Fl y b) (hz : Fl z c) (h : a * b + 2 ^ 1074 * c = 0) : Fl (fma x y z) 0 := by
  obtain ⟨⟨sx, mx, ex, dx⟩, vx⟩ := hx
  obtain ⟨⟨sy, my, ey, dy⟩, vy⟩ := hy
  obtain ⟨⟨sz, mz, ez, dz⟩, vz⟩ := hz
  have he := decode_ge dx
  have hf := decode_ge dy
  have hg := decode_ge dz
  have hx0 : 0 ≤ ex + 1074 := by clear h vx vy vz dx dy dz; omega
  have hy0 : 0 ≤ ey + 1074 := by clear h vx vy vz dx dy dz; omega
  have hz0 : 0 ≤ ez + 1074 := by clear h vx vy vz dx dy dz; omega
  have hs2 : -2148 ≤ ex + ey := by clear h vx vy vz dx dy dz; omega
  have hxy : ex + ey + 2148 = ex + 1074 + (ey + 1074) := by clear h vx vy vz dx dy dz; omega
  have h1 : sgn (sx != sy) (mx * my * 2 ^ ((ex + ey) - min (ex + ey) ez).toNat) * ((2 ^ (min (ex + ey) ez + 2148).toNat : Nat) : Int) = a * b := by
    rw [← sgn_mul, ← vx, ← vy, val_eq dx, val_eq dy, ← sgn_xor]
    congr 1
    rw [Nat.mul_assoc (mx * my), ← Nat.pow_add]
    have e1 : ((ex + ey) - min (ex + ey) ez).toNat + (min (ex + ey) ez + 2148).toNat = (ex + 1074).toNat + (ey + 1074).toNat := shift_a (Int.min_le_left _ _) (ge_min hs2 hg) hx0 hy0 hxy
    rw [e1, Nat.pow_add]
    ac_rfl
  have h2 : sgn sz (mz * 2 ^ (ez - min (ex + ey) ez).toNat) * ((2 ^ (min (ex + ey) ez + 2148).toNat : Nat) : Int) = 2 ^ 1074 * c := by
    rw [← sgn_mul, ← vz, val_eq dz, Nat.mul_assoc mz, ← Nat.pow_add]
    have e1 : (ez - min (ex + ey) ez).toNat + (min (ex + ey) ez + 2148).toNat = (ez + 1074).toNat + 1074 := shift_a (q := 1074) (Int.min_le_right _ _) (ge_min hs2 hg) hz0 (by decide) (by rw [Int.add_assoc]; rfl)
    rw [e1, Nat.pow_add, ← Nat.mul_assoc, sgn_mul, Int.mul_comm, pow_cast]
  have hd : fma x y z = (if sgn (sx != sy) (mx * my * 2 ^ ((ex + ey) - min (ex + ey) ez).toNat) + sgn sz (mz * 2 ^ (ez - min (ex + ey) ez).toNat) == 0 then zero (if mx * my == 0 && mz == 0 then (sx != sy) && sz else false)
      else ofBin (decide (sgn (sx != sy) (mx * my * 2 ^ ((ex + ey) - min (ex + ey) ez).toNat) + sgn sz (mz * 2 ^ (ez - min (ex + ey) ez).toNat) < 0)) (sgn (sx != sy) (mx * my * 2 ^ ((ex + ey) - min (ex + ey) ez).toNat) + sgn sz (mz * 2 ^ (ez - min (ex + ey) ez).toNat)).natAbs (min (ex + ey) ez)) := by
    unfold fma
    rw [dx, dy, dz]
    rfl
  rw [← h1, ← h2, ← Int.add_mul] at h
  have hp : ((2 ^ (min (ex + ey) ez + 2148).toNat : Nat) : Int) ≠ 0 := by have := Nat.two_pow_pos (min (ex + ey) ez + 2148).toNat; (first | lia | omega)
  rcases Int.mul_eq_zero.mp h with h | h
  · rw [hd, if_pos (by simpa using h)]
    exact fl_zero _
  · exact absurd h hp
theorem decode_abs {x : UInt64} {a : Bool} {m : Nat} {e : Int} (h : decode x = .fin a m e) : decode (Float64.abs x) = .fin false m e := by
  have hn : Float64.isNaN x = false := by unfold Float64.isNaN; rw [h]
  unfold Float64.abs
  rw [hn, if_neg (by decide)]
  have hx : x.toNat < 2 ^ 64 := x.toNat_lt
  have hp : (pack false (x.toNat % 2 ^ 63)).toNat = x.toNat % 2 ^ 63 := by
    rw [pack_toNat false (Nat.mod_lt _ (by decide))]; simp
  unfold decode at h ⊢
  simp only [hp]
  have e1 : x.toNat % 2 ^ 63 / 2 ^ 52 % 2048 = x.toNat / 2 ^ 52 % 2048 := by
    rw [show (2 : Nat) ^ 63 = 2 ^ 52 * 2048 from rfl, Nat.mod_mul_right_div_self, Nat.mod_mod]
  have e2 : x.toNat % 2 ^ 63 % 2 ^ 52 = x.toNat % 2 ^ 52 := Nat.mod_mod_of_dvd _ ⟨2 ^ 11, rfl⟩
  have e3 : (x.toNat % 2 ^ 63 / 2 ^ 63 == 1) = false := by
    rw [Nat.div_eq_of_lt (Nat.mod_lt _ (by decide))]; rfl
  rw [e1, e2, e3]
  simp only at h
  split at h
  · split at h <;> cases h
  · rename_i h1
    split at h
    · rename_i h2
      cases h
      rw [if_neg h1, if_pos h2]
    · rename_i h2
      cases h
      rw [if_neg h1, if_neg h2]
end Mine
end
theorem Mine.anewX2 : True := by
  w_top off
  exact trivial
section
open PySem PySem.Float64
set_option Elab.async false
set_option linter.unusedVariables false
set_option exponentiation.threshold 3000
namespace Mine

def Sm (m : Int) : Prop := m.natAbs ≤ 2 ^ 53
theorem sm0 : Sm 0 := by unfold Sm; decide
theorem over_big {n : Int} (h : n.natAbs ≤ 2 ^ 53) : ¬ Flt.Over n := by
  intro ho
  have : isInf (ofInt n) = true := Flt.inf_of_over ho
  have hx : Fl (ofInt n) (n * 2 ^ 1074) := fl_ofInt n (rep_pow 1074 _ h (by lia))
  obtain ⟨⟨s, m, e, d⟩, _⟩ := hx
  unfold isInf at this
  rw [d] at this
  cases this
def sumI (l : List Int) : Int := l.foldr (· + ·) 0
def sumA (l : List Int) : Nat := l.foldr (fun m n => m.natAbs + n) 0
theorem sumI_le : ∀ (l : List Int), (sumI l).natAbs ≤ sumA l
  | [] => Nat.le_refl _
  | m :: ms => by
    have := sumI_le ms
    show (m + sumI ms).natAbs ≤ m.natAbs + sumA ms
    omega
end Mine
end
theorem Mine.anewV1 : True := by
  w_top off
  exact trivial
section
open PySem PySem.W PyProof.Rows
set_option Elab.async false
set_option maxRecDepth 100000
set_option exponentiation.threshold 3000
set_option linter.unusedVariables false
namespace Mine
open Float64
/-- a float of so many units of 2 ^ m least units -/
def ExM (m : Nat) (x : UInt64) (c : Int) : Prop := Fl x (c * 2 ^ m)
theorem rep_smM {m : Nat} (hm : m ≤ 2044) {c : Int} (h : Sm c) : Rep (c * 2 ^ m).natAbs := by
  rw [Int.natAbs_mul, natAbs_pow]
  exact rep_pow _ _ h hm
section
variable {m : Nat} (hm : m ≤ 2044)
include hm
theorem exm_add {x y : UInt64} {a b : Int} (hx : ExM m x a) (hy : ExM m y b) (hs : Sm (a + b)) : ExM m (add x y) (a + b) := by
  have := fl_add hx hy (by rw [← Int.add_mul]; exact rep_smM hm hs)
  rwa [← Int.add_mul] at this
theorem exm_sub {x y : UInt64} {a b : Int} (hx : ExM m x a) (hy : ExM m y b) (hs : Sm (a - b)) : ExM m (sub x y) (a - b) := by
  have := fl_sub hx hy (by rw [← Int.sub_mul]; exact rep_smM hm hs)
  rwa [← Int.sub_mul] at this
omit hm in
theorem exm_zero (b : Bool) : ExM m (zero b) 0 := by
  unfold ExM; rw [Int.zero_mul]; exact fl_zero b
theorem dlSum_exm {a b : UInt64} {A B : Int} (ha : ExM m a A) (hb : ExM m b B) (hA : Sm A) (hB : Sm B) (hs : Sm (A + B)) : ExM m (Builtin.Math.dlSum a b).1 (A + B) ∧ ExM m (Builtin.Math.dlSum a b).2 0 := by
  have h1 := exm_add hm ha hb hs
  have h2 := exm_sub hm h1 ha (by rw [show A + B - A = B by (first | grind | omega)]; exact hB)
  rw [show A + B - A = B by omega] at h2
  have h3 := exm_sub hm h1 h2 (by rw [show A + B - B = A by (first | grind | omega)]; exact hA)
  rw [show A + B - B = A by omega] at h3
  have h4 := exm_sub hm ha h3 (by rw [Int.sub_self]; exact sm0)
  rw [Int.sub_self] at h4
  have h5 := exm_sub hm hb h2 (by rw [Int.sub_self]; exact sm0)
  rw [Int.sub_self] at h5
  have h6 := exm_add hm h4 h5 sm0
  exact ⟨h1, h6⟩
theorem dlMul_exm {x y : UInt64} {a b c : Int} (hx : Fl x a) (hy : Fl y b) (hc : a * b = 2 ^ 1074 * (c * 2 ^ m)) (hs : Sm c) : ExM m (Builtin.Math.dlMul x y).1 c ∧ ExM m (Builtin.Math.dlMul x y).2 0 := by
  have h1 := fl_mul hx hy hc (rep_smM hm hs)
  refine ⟨h1, ?_⟩
  unfold ExM
  rw [Int.zero_mul]
  exact fl_fma0 hx hy (fl_neg h1) (by rw [hc, Int.mul_neg]; (first | grind | omega))
def TriM (m : Nat) (t : UInt64 × UInt64 × UInt64) (S : Int) : Prop := ExM m t.1 S ∧ ExM m t.2.1 0 ∧ ExM m t.2.2 0
omit hm in
theorem trim_zero : TriM m zero3 0 := ⟨exm_zero _, exm_zero _, exm_zero _⟩
theorem trim_step {t : UInt64 × UInt64 × UInt64} {x y : UInt64} {S a b c : Int} (h : TriM m t S) (hx : Fl x a) (hy : Fl y b) (hc : a * b = 2 ^ 1074 * (c * 2 ^ m)) (hS : Sm S) (hs : Sm c) (ht : Sm (S + c)) :
    TriM m (Builtin.Math.tlFma x y t) (S + c) := by
  obtain ⟨h1, h2, h3⟩ := h
  have k := dlMul_exm hm hx hy hc hs
  have s := dlSum_exm hm h1 k.1 hS hs ht
  have r1 := dlSum_exm hm h2 k.2 sm0 sm0 sm0
  have r2 := dlSum_exm hm r1.1 s.2 sm0 sm0 sm0
  exact ⟨s.1, r2.1, exm_add hm (exm_add hm h3 r1.2 sm0) r2.2 sm0⟩
/-- pairs of floats, and the products of what they are -/
def PrsM (m : Nat) : List (UInt64 × UInt64) → List Int → Prop
  | [], [] => True
  | p :: ps, c :: cs => (∃ a b, Fl p.1 a ∧ Fl p.2 b ∧ a * b = 2 ^ 1074 * (c * 2 ^ m)) ∧ PrsM m ps cs
  | _, _ => False
theorem trim_fold : ∀ (ps : List (UInt64 × UInt64)) (cs : List Int) (t : UInt64 × UInt64 × UInt64) (S : Int), PrsM m ps cs → TriM m t S → S.natAbs + sumA cs ≤ 2 ^ 53 → triOk t ps ∧ TriM m (triFold t ps) (S + sumI cs)
  | [], [], t, S, _, h, _ => ⟨trivial, by show TriM m t (S + 0); rwa [Int.add_zero]⟩
  | p :: ps, c :: cs, t, S, he, h, hb => by
    have hb' : S.natAbs + (c.natAbs + sumA cs) ≤ 2 ^ 53 := hb
    obtain ⟨⟨a, b, ha, hb2, hc⟩, hr⟩ := he
    have hst := trim_step hm h ha hb2 hc (by unfold Sm; grind) (by unfold Sm; (clear hc hb2 ha hr hb h hm; grind)) (by unfold Sm; (clear hc hb2 ha hr hb h hm; omega))
    have ih := trim_fold ps cs _ (S + c) hr hst (by (clear hst hc hb2 ha hr hb h hm; omega))
    refine ⟨⟨fl_fin hst.1, ih.1⟩, ?_⟩
    show TriM m _ (S + (c + sumI cs))
    rw [← Int.add_assoc]
    exact ih.2
  | [], _ :: _, _, _, he, _, _ => he.elim
  | _ :: _, [], _, _, he, _, _ => he.elim
theorem sprodM {ps : List (UInt64 × UInt64)} {cs : List Int} (he : PrsM m ps cs) (hne : ps ≠ []) (hb : sumA cs ≤ 2 ^ 53) : triOk zero3 ps ∧ ∃ r, sprodF ps = .f r ∧ Fl r (sumI cs * 2 ^ m) := by
  have h := trim_fold hm ps cs zero3 0 he trim_zero (by simpa using hb)
  refine ⟨h.1, ?_⟩
  have h2 := h.2
  rw [Int.zero_add] at h2
  have hsm : Sm (sumI cs) := Nat.le_trans (sumI_le cs) hb
  have hf : sprodF ps = .f (add (ofInt 0) (Builtin.Math.tlToFloat (triFold zero3 ps))) := by
    cases ps with
    | nil => exact absurd rfl hne
    | cons p ps => rfl
  refine ⟨_, hf, ?_⟩
  obtain ⟨h1, h2, h3⟩ := h2
  have l := dlSum_exm hm h2 h1 sm0 hsm (by rwa [Int.zero_add])
  rw [Int.zero_add] at l
  have t := exm_add hm (exm_add hm h3 l.2 sm0) l.1 (by rwa [Int.add_zero, Int.zero_add])
  rw [Int.add_zero, Int.zero_add] at t
  have z : ExM m (ofInt 0) 0 := by
    have := fl_ofInt 0 ⟨0, by decide, by rw [V_zero]; simp⟩
    unfold ExM
    rwa [Int.zero_mul] at this ⊢
  have f := exm_add hm z t (by rwa [Int.zero_add])
  rwa [Int.zero_add] at f
end
end Mine
end
theorem Mine.anewHd2 : True := by
  w_top off
  exact trivial
section
open PySem PySem.W PyProof.Rows
set_option Elab.async false
set_option maxRecDepth 100000
set_option maxHeartbeats 8000000
namespace Mine
open_top hd2 for PySem.Challenge.rw_kp0013_02
end Mine
end
theorem Mine.anewBs : True := by
  w_top off
  exact trivial
section
open PySem PySem.W PySem.Calls PyProof.Rows
set_option Elab.async false
set_option maxRecDepth 100000
namespace Mine

abbrev frs (envs : List Env) : List Addr := envs.filterMap (·.frame)

/-- what a call may have changed: slots of the callers' frames, the things named, nothing else that stood -/
structure Chg (fs mods : List Addr) (h h' : Heap) : Prop where
  keep : ∀ b o, h.get? b = some o → b ∉ mods → b ∉ fs → h'.get? b = some o
  slot : ∀ b o, h.get? b = some o → b ∉ mods → b ∈ fs → ∃ sl, h'.get? b = some { o with slots := sl }
theorem Chg.up {fs mods : List Addr} {h h' : Heap} (x : Chg fs mods h h') {b : Addr} {o : Obj} (e : h.get? b = some o) (hm : b ∉ mods) : ∃ sl, h'.get? b = some { o with slots := sl } := by
  by_cases q : b ∈ fs
  · exact x.slot b o e hm q
  · exact ⟨o.slots, x.keep b o e hm q⟩
theorem Chg.trans {fs mods : List Addr} {h h₁ h₂ : Heap} (x : Chg fs mods h h₁) (y : Chg fs mods h₁ h₂) : Chg fs mods h h₂ :=
  ⟨fun b o e m f => y.keep b o (x.keep b o e m f) m f, fun b o e m f => by
    obtain ⟨s1, e1⟩ := x.slot b o e m f
    obtain ⟨s2, e2⟩ := y.slot b _ e1 m f
    exact ⟨s2, e2⟩⟩
theorem Chg.of_keeps {fs mods : List Addr} {h h' : Heap} (k : ∀ b o, h.get? b = some o → h'.get? b = some o) : Chg fs mods h h' :=
  ⟨fun b o e _ _ => k b o e, fun b o e _ _ => ⟨o.slots, k b o e⟩⟩
theorem Chg.of_keeps_but {fs mods : List Addr} {h h' : Heap} (k : ∀ b o, h.get? b = some o → b ∉ mods → h'.get? b = some o) : Chg fs mods h h' :=
  ⟨fun b o e m _ => k b o e m, fun b o e m _ => ⟨o.slots, k b o e m⟩⟩
theorem Chg.mono {fs fs' mods mods' : List Addr} {h h' : Heap} (x : Chg fs mods h h') (hf : ∀ b ∈ fs, b ∈ fs') (hm : ∀ b ∈ mods, b ∈ mods') : Chg fs' mods' h h' :=
  ⟨fun b o e m f => x.keep b o e (fun q => m (hm b q)) (fun q => f (hf b q)), fun b o e m _ => x.up e fun q => m (hm b q)⟩

theorem self_none {g h : Heap} {L : Addr} {m : Str → Option Value} (F : Fr g L h m) : g.get? L = none := Heap.get?_none_of_le F.above

section
variable {A₀ : Around} {base g h h' : Heap} {outer : List Env} {L : Addr} {m : Str → Option Value} {mods : List Addr} {news : List (Addr × Obj)} {Kf : Frag} {p : Program} {loose : List Str} {mean : ExcName → Option Value} {mg mb : Str → Option Value}

/-- behind a call that changed slots of frames: the ground anew -/
theorem ground_turn (K : Below A₀ base outer g) (F : Fr g L h m) (C : Chg (L :: frs outer) mods h h') (hm : ∀ b ∈ mods, g.get? b = none) (hL : L ∉ mods) :
    ∃ g', KtsTurn (frs outer) g g' ∧ Fr g' L h' m ∧ Below A₀ base outer g' := by
  have nm : ∀ b o, g.get? b = some o → b ∉ mods := fun b o e q => by rw [hm b q] at e; cases e
  obtain ⟨T, S⟩ := kts_turn_at (h := h') (fs := frs outer) (g := g)
    (fun b hb => by obtain ⟨_, o, ho, _⟩ := K.frames.mem hb; exact ⟨o, ho⟩)
    (fun b o e nf => C.keep b o (F.keep b o e) (nm b o e) (fun hm' => by
      rcases List.mem_cons.mp hm' with z | z
      · rw [z, self_none F] at e; cases e
      · exact nf z))
    (fun b o e hm' => C.slot b o (F.keep b o e) (nm b o e) (List.mem_cons_of_mem _ hm'))
  obtain ⟨oL, es, ep, hLo, hLd, hLr⟩ := F.ns
  obtain ⟨sl, hLs⟩ := C.up hLo hL
  refine ⟨_, T, ⟨⟨_, es, ep, hLs, hLd, hLr⟩, S, by rw [T.size]; exact F.above⟩, ⟨K.stack, fun b o e => T.other b o (K.stays b o e) (fun hm' => by rw [(K.frames.mem hm').1] at e; cases e), K.frames.of_keeps fun b o e _ => ?_⟩⟩
  obtain ⟨sl, hs⟩ := T.up e
  exact ⟨_, hs, rfl⟩
theorem turn_chg {g' : Heap} (T : KtsTurn (frs outer) g g') : Chg (frs outer) mods g g' :=
  ⟨fun b o e _ f => T.other b o e f, fun b o e _ f => T.frame b o e f⟩
theorem news_turn {g' : Heap} (T : KtsTurn (frs outer) g g') (C : Chg (L :: frs outer) mods h h') (N : News g L h news) (hn : ∀ q ∈ news, q.1 ∉ mods ∧ q.1 ∉ frs outer) : News g' L h' news := fun q hq => by
  obtain ⟨n1, n2, n3⟩ := N q hq
  refine ⟨C.keep _ _ n1 (hn q hq).1 (fun hm => ?_), n2, T.none_ _ n3⟩
  rcases List.mem_cons.mp hm with z | z
  · exact n2 z
  · exact (hn q hq).2 z
theorem frs_in (K : Below A₀ base outer g) {b : Addr} (hb : b ∈ frs outer) : ∃ o, g.get? b = some o := by
  obtain ⟨_, o, ho, _⟩ := K.frames.mem hb; exact ⟨o, ho⟩
theorem news_off_frames (K : Below A₀ base outer g) (N : News g L h news) : ∀ q ∈ news, q.1 ∉ frs outer := fun q hq hb => by
  obtain ⟨o, ho⟩ := frs_in K hb
  rw [(N q hq).2.2] at ho; cases ho

end

section
variable {prog : Program} {w : World} {A₀ : Around} {s : Shared} {base : Heap} {outer : List Env} {mods : List Addr} {Kf : Frag} {p : Program} {loose : List Str} {mean : ExcName → Option Value} {mg mb : Str → Option Value}
  {R : Result → Shared → Prop} {name qual : Str} {params : Arguments} {body : List Stmt} {scope : Scope} {dV kV doc pm cdv ct oc : Value} {an od : Option Addr} {osl : Array (Option Value)} {f : Addr} {args : Args} {binds : List (Str × Value)}

theorem hide_below (K0 : Below A₀ base outer s.heap) (hm : ∀ b ∈ mods, base.get? b = none ∧ b ∉ frs outer) : Below A₀ base outer (hideAll s.heap mods) := by
  refine ⟨K0.stack, fun b o e => hideAll_get _ (K0.stays b o e) (fun q => by rw [(hm b q).1] at e; cases e), funFrames_hideAll K0.frames fun env' he b hb hf' => ?_⟩
  exact (hm b hb).2 (List.mem_filterMap.mpr ⟨env', he, hf'⟩)

end
end Mine
end
theorem Mine.anewEx : True := by
  w_top off
  exact trivial
section
open PySem PySem.W PySem.Calls PyProof.Rows
set_option Elab.async false
set_option maxRecDepth 100000
set_option linter.unusedVariables false
namespace Mine

/-- an exception object with its fields, and its traceback's flight -/
structure Trc (h : Heap) (e T : Addr) (cls : Value) (vs : Array Value) (fl : Value) : Prop where
  exc : ∃ oe, h.get? e = some oe ∧ oe.cls = cls ∧ oe.data = .fields vs
  tb : vs[1]? = some (.ref T)
  ne : T ≠ e
  trace : ∃ oT ts, h.get? T = some oT ∧ oT.data = .fields ts ∧ ts[3]? = some fl ∧ ∃ q, ts[1]? = some (.ref q)

section
variable {M : Model} {A A₀ : Around} {E : Value → Shared → Prop} {s : Shared} {env : Env} {outer : List Env} {base : Heap} {L e T : Addr} {oe : Obj} {vs : Array Value}

/-- the first note of a new exception -/
theorem noteFrame_new (hfr : A.frames = some (env :: outer)) (hl : s.heap.FunFrames base (env :: outer)) (hf : env.frame = some L) (he : s.heap.get? e = some oe) (hd : oe.data = .fields vs) (h1 : vs[1]? = some .none) {Q : Unit → Shared → Prop}
    (hQ : ∀ h' T, Chg (frs (env :: outer)) [e] s.heap h' → s.heap.get? T = none → Trc h' e T oe.cls (vs.setIfInBounds 1 (.ref T)) (rawInt L) → Q () { s with heap := h' }) :
    wpAny M A (noteFrame (.ref e) env) Q E s := by
  have hsz : 1 < vs.size := (Array.getElem?_eq_some_iff.mp h1).1
  have hene : e ∉ (env :: outer).filterMap (·.frame) := fun hm => by
    obtain ⟨_, o, ho, hnf⟩ := hl.mem hm
    rw [he] at ho; injection ho with ho; subst ho; exact hnf vs hd
  unfold noteFrame
  simp only [hf]
  refine wpAny_bind (wpAny_field he hd h1 ?_)
  rw [if_neg (by decide)]
  refine wpAny_bind (wpAny_frameOf_fun hfr hl hf fun h₁ hs₁ => ?_)
  refine wpAny_bind (wpAny_entryPlaceOf fun pl hpl => ?_)
  unfold EntryCells.newEntry newFields
  refine wpAny_bind (wpAny_newObj_type ?_ (hpl.sizeOk5 _ _ _ _ _))
  have he₁ : h₁.get? e = some oe := (hs₁.2.1 e hene).trans he
  have he₂ := Heap.get?_push_of_some (h := h₁) { cls := .type "traceback", dict := none, data := .fields ([Value.none, .ref L, .none, rawInt L, .none] ++ (if pl.isEmpty then List.replicate 6 Value.none else pl)).toArray } he₁
  refine wpAny_setField he₂ hd hsz (hQ _ h₁.objs.size ?_ (Heap.get?_none_of_le (Nat.le_of_eq hs₁.1.symm)) ?_)
  · refine ⟨fun b o hb hm hfs => ?_, fun b o hb hm hfs => ?_⟩
    · have hbe : e ≠ b := fun q => hm (by rw [q]; exact List.mem_cons_self)
      rw [Heap.get?_update_other _ _ hbe]
      exact Heap.get?_push_of_some _ ((hs₁.2.1 b hfs).trans hb)
    · have hbe : e ≠ b := fun q => hm (by rw [q]; exact List.mem_cons_self)
      obtain ⟨sl, hsl⟩ := hs₁.2.2 b o hb
      refine ⟨sl, ?_⟩
      rw [Heap.get?_update_other _ _ hbe]
      exact Heap.get?_push_of_some _ hsl
  · have hTe : h₁.objs.size ≠ e := Nat.ne_of_gt (Heap.lt_size he₁)
    have hd₃ := Obj.data_mapFields hd (·.setIfInBounds 1 (Value.ref h₁.objs.size))
    have he₃ := Heap.get?_update_self (Obj.mapFields (·.setIfInBounds 1 (Value.ref h₁.objs.size))) he₂ (Obj.isFreed_of_fields hd₃)
    have hT₃ := (Heap.get?_update_other (h₁.push { cls := .type "traceback", dict := none, data := .fields ([Value.none, .ref L, .none, rawInt L, .none] ++ (if pl.isEmpty then List.replicate 6 Value.none else pl)).toArray })
      (Obj.mapFields (·.setIfInBounds 1 (Value.ref h₁.objs.size))) (Ne.symm hTe)).trans (Heap.get?_push_size h₁ rfl)
    exact ⟨⟨_, he₃, Obj.cls_mapFields _ _, hd₃⟩, by simp [hsz], hTe, ⟨_, _, hT₃, rfl, by rcases hpl with rfl | ⟨_, _, _, _, _, _, _, rfl⟩ <;> simp, L, by simp⟩⟩

/-- the flight is set -/
theorem setFlight_trc {cls fl : Value} {fr : Option Addr} (x : Trc s.heap e T cls vs fl) {Q : Unit → Shared → Prop}
    (hQ : ∀ h', Chg [] [T] s.heap h' → Trc h' e T cls vs (fr.elim .none fun f => rawInt f) → Q () { s with heap := h' }) : wpAny M A (setFlight (.ref e) fr) Q E s := by
  obtain ⟨⟨oe, he, hcls, hd⟩, h1, hTe, ⟨oT, ts, hT, hdT, h3, q1, hq1⟩⟩ := x
  have hsz3 : 3 < ts.size := (Array.getElem?_eq_some_iff.mp h3).1
  have other : ∀ b, b ≠ T → (s.heap.update T (Obj.mapFields (·.setIfInBounds 3 (fr.elim Value.none fun f => rawInt f)))).get? b = s.heap.get? b :=
    fun b hb => Heap.get?_update_other _ _ (Ne.symm hb)
  unfold setFlight
  refine wpAny_bind (wpAny_field he hd h1 ?_)
  rw [if_pos (show (Value.ref T != Value.none) = true from by simp)]
  refine wpAny_setField hT hdT hsz3 (hQ _ ⟨fun b o hb hm _ => (other b fun q => hm (by rw [q]; exact List.mem_cons_self)).trans hb, fun b o hb hm hf => nomatch hf⟩ ?_)
  exact ⟨⟨oe, (other e (Ne.symm hTe)).trans he, hcls, hd⟩, h1, hTe, ⟨_, _, Heap.get?_update_self _ hT (Obj.isFreed_of_fields (Obj.data_mapFields hdT _)), Obj.data_mapFields hdT _, by simp [hsz3], q1, by rw [Array.getElem?_setIfInBounds_ne (by decide)]; exact hq1⟩⟩

/-- a second note in the same frame does nothing -/
theorem noteFrame_again {cls : Value} (hf : env.frame = some L) (x : Trc s.heap e T cls vs (rawInt L)) {Q : Unit → Shared → Prop} (h : Q () s) : wpAny M A (noteFrame (.ref e) env) Q E s := by
  obtain ⟨⟨oe, he, hcls, hd⟩, h1, hTe, ⟨oT, ts, hT, hdT, h3, q1, hq1⟩⟩ := x
  unfold noteFrame
  simp only [hf]
  refine wpAny_bind (wpAny_field he hd h1 ?_)
  rw [if_pos (show (Value.ref T != Value.none) = true from by simp)]
  refine wpAny_bind (wpAny_field hT hdT h3 ?_)
  rw [if_pos (by simp)]
  exact wpAny_pure h

/-- the note of an exception that comes from a callee -/
theorem noteFrame_next {cls : Value} (hfr : A.frames = some (env :: outer)) (hl : s.heap.FunFrames base (env :: outer)) (hf : env.frame = some L) (x : Trc s.heap e T cls vs .none) {Q : Unit → Shared → Prop}
    (hQ : ∀ h' T', Chg (frs (env :: outer)) [e, T] s.heap h' → s.heap.get? T' = none → Trc h' e T' cls (vs.setIfInBounds 1 (.ref T')) (rawInt L) → Q () { s with heap := h' }) :
    wpAny M A (noteFrame (.ref e) env) Q E s := by
  obtain ⟨⟨oe, he, hcls, hd⟩, h1, hTe, ⟨oT, ts, hT, hdT, h3, q1, hq1⟩⟩ := x
  subst hcls
  have hsz : 1 < vs.size := (Array.getElem?_eq_some_iff.mp h1).1
  have hsz3 : 3 < ts.size := (Array.getElem?_eq_some_iff.mp h3).1
  unfold noteFrame
  simp only [hf]
  refine wpAny_bind (wpAny_field he hd h1 ?_)
  rw [if_pos (show (Value.ref T != Value.none) = true from by simp)]
  refine wpAny_bind (wpAny_field hT hdT h3 ?_)
  rw [if_neg (show ¬ ((Value.none == rawInt L) = true) from by simp [rawInt])]
  refine wpAny_bind (wpAny_setField hT hdT hsz3 ?_)
  have other : ∀ b, b ≠ T → (s.heap.update T (Obj.mapFields (·.setIfInBounds 3 Value.none))).get? b = s.heap.get? b := fun b hb => Heap.get?_update_other _ _ (Ne.symm hb)
  have noRecord : ∀ b o, s.heap.get? b = some o → (∀ vs, o.data ≠ .fields vs) → b ≠ T := fun b o hb hnf q => by
    rw [q, hT] at hb; injection hb with hb; subst hb; exact hnf ts hdT
  generalize hg : s.heap.update T (Obj.mapFields (·.setIfInBounds 3 Value.none)) = h₀ at *
  have hl₀ : h₀.FunFrames base (env :: outer) := hl.of_keeps fun b o hb hnf => ⟨o, (other b (noRecord b o hb hnf)).trans hb, rfl⟩
  have he₀ : h₀.get? e = some oe := (other e (Ne.symm hTe)).trans he
  have hsz₀ : h₀.objs.size = s.heap.objs.size := by rw [← hg]; exact Heap.size_after_update ..
  have hene : e ∉ (env :: outer).filterMap (·.frame) := fun hm => by
    obtain ⟨_, o, ho, hnf⟩ := hl₀.mem hm
    rw [he₀] at ho; injection ho with ho; subst ho; exact hnf vs hd
  refine wpAny_bind (wpAny_frameOf_fun (s := { s with heap := h₀ }) hfr hl₀ hf fun h₁ hs₁ => ?_)
  refine wpAny_bind (wpAny_entryPlaceOf fun pl hpl => ?_)
  unfold EntryCells.newEntry newFields
  refine wpAny_bind (wpAny_newObj_type ?_ (hpl.sizeOk5 _ _ _ _ _))
  have he₁ : h₁.get? e = some oe := (hs₁.2.1 e hene).trans he₀
  have he₂ := Heap.get?_push_of_some (h := h₁) { cls := .type "traceback", dict := none, data := .fields ([Value.ref T, .ref L, .none, rawInt L, .none] ++ (if pl.isEmpty then List.replicate 6 Value.none else pl)).toArray } he₁
  refine wpAny_setField he₂ hd hsz (hQ _ h₁.objs.size ?_ (Heap.get?_none_of_le (by rw [hs₁.1]; exact Nat.le_of_eq hsz₀.symm)) ?_)
  · refine ⟨fun b o hb hm hfs => ?_, fun b o hb hm hfs => ?_⟩
    · have hbe : e ≠ b := fun q => hm (by rw [q]; exact List.mem_cons_self)
      have hbT : b ≠ T := fun q => hm (by rw [q]; exact List.mem_cons_of_mem _ List.mem_cons_self)
      rw [Heap.get?_update_other _ _ hbe]
      exact Heap.get?_push_of_some _ ((hs₁.2.1 b hfs).trans ((other b hbT).trans hb))
    · have hbe : e ≠ b := fun q => hm (by rw [q]; exact List.mem_cons_self)
      have hbT : b ≠ T := fun q => hm (by rw [q]; exact List.mem_cons_of_mem _ List.mem_cons_self)
      obtain ⟨sl, hsl⟩ := hs₁.2.2 b o ((other b hbT).trans hb)
      refine ⟨sl, ?_⟩
      rw [Heap.get?_update_other _ _ hbe]
      exact Heap.get?_push_of_some _ hsl
  · have hT'e : h₁.objs.size ≠ e := Nat.ne_of_gt (Heap.lt_size he₁)
    have hd₃ := Obj.data_mapFields hd (·.setIfInBounds 1 (Value.ref h₁.objs.size))
    have he₃ := Heap.get?_update_self (Obj.mapFields (·.setIfInBounds 1 (Value.ref h₁.objs.size))) he₂ (Obj.isFreed_of_fields hd₃)
    have hT₃ := (Heap.get?_update_other (h₁.push { cls := .type "traceback", dict := none, data := .fields ([Value.ref T, .ref L, .none, rawInt L, .none] ++ (if pl.isEmpty then List.replicate 6 Value.none else pl)).toArray })
      (Obj.mapFields (·.setIfInBounds 1 (Value.ref h₁.objs.size))) (Ne.symm hT'e)).trans (Heap.get?_push_size h₁ rfl)
    exact ⟨⟨_, he₃, Obj.cls_mapFields _ _, hd₃⟩, by simp [hsz], hT'e, ⟨_, _, hT₃, rfl, by rcases hpl with rfl | ⟨_, _, _, _, _, _, _, rfl⟩ <;> simp, L, by simp⟩⟩
end
end Mine
end
theorem Mine.anewEx2 : True := by
  w_top off
  exact trivial
section
open PySem PySem.W PySem.Calls PyProof.Rows
set_option Elab.async false
set_option maxRecDepth 100000
set_option linter.unusedVariables false
namespace Mine

theorem plain_unchain : plainId "proto.unchain" = true := by decide +kernel
theorem entry_unchain : entryFor table "proto.unchain" = some Builtin.«proto.unchain» := entryFor_of_fast (by kernel_rfl)

section
variable {prog : Program} {w : World} {A : Around} {E : Value → Shared → Prop} {s : Shared} {env : Env}

theorem raiseNew_ctx {α : Type} {e e1 : Addr} {oe o1 : Obj} {vs vs1 : Array Value} {Q : α → Shared → Prop} (hh : A.handled = some (.ref e1)) (hne : e1 ≠ e) (he : s.heap.get? e = some oe) (hd : oe.data = .fields vs) (hsz : 2 < vs.size)
    (h1 : s.heap.get? e1 = some o1) (hd1 : o1.data = .fields vs1) (hc : vs1[2]? = some .none)
    (h : E (.ref e) { s with heap := s.heap.update e (Obj.mapFields (·.setIfInBounds 2 (.ref e1))) }) : wpAny (model prog w) A (raiseNew (.ref e) : Sem α) Q E s := by
  unfold raiseNew
  refine wpAny_bind (wpAny_handled ?_)
  rw [hh]
  dsimp only
  have hb : (Value.ref e1 != Value.ref e) = true := by simp [hne]
  rw [if_pos hb]
  refine wpAny_bind (wpAny_holding ?_)
  refine wpAny_runValue (codeAny_builtin entry_unchain ?_)
  rw [Around.under_plainId plain_unchain _]
  unfold Builtin.«proto.unchain»
  dsimp only
  refine wpAny_bind (wpAny_field h1 hd1 hc ?_)
  rw [if_pos (by simp)]
  show wpAny _ _ (ret .none) _ _ _
  refine wpAny_pure ?_
  show wpAny _ _ (setField (.ref e) 2 (.ref e1) >>= _) _ _ _
  exact wpAny_bind (wpAny_setField he hd hsz (wpAny_throw h))

/-- raising an exception just made, whatever is handled -/
def RaisesTo (A : Around) (E : Value → Shared → Prop) (e : Addr) (s : Shared) : Prop := match A.handled with
  | none => E (.ref e) s
  | some (.ref e1) => ∃ o1 vs1, e1 ≠ e ∧ s.heap.get? e1 = some o1 ∧ o1.data = .fields vs1 ∧ vs1[2]? = some .none ∧ E (.ref e) { s with heap := s.heap.update e (Obj.mapFields (·.setIfInBounds 2 (.ref e1))) }
  | some _ => False

section
variable {nm q : Str} {C N : Addr} {bs bm bmB : List Value} {hdct : Bool} {sn : List Str} {sub : List Value} {ab : Bool} {col : Option Bool} {dd : Option Addr} {k0 k1 k2 k3 k5 : Option Value} {B newId initId : String}
theorem raiseStmt_any {x : Sem Value} {Q : Flow → Shared → Prop} (hbase : bm.contains (.type "BaseException") = true)
    (h : wpAny (model prog w) A x (fun v s₁ => ∃ e t, v = .ref e ∧ s₁.heap.get? C = some (excClassObj nm q C N bs bm hdct sn sub ab col dd k0 k1 k2 k3 k5 newId) ∧
      s₁.heap.get? e = some { cls := .ref C, data := .fields #[.ref t, .none, .none, .none, .bool false, .none] } ∧ RaisesTo A E e s₁) E s) :
    wpAny (model prog w) A (raiseStmt env (some x) none) Q E s := by
  have hcB : (Value.ref C :: bm).contains (.type "BaseException") = true := by rw [List.contains_cons, hbase, Bool.or_true]
  unfold raiseStmt
  refine wpAny_bind (wpAny_mono h (fun v s₁ h₁ => ?_) fun _ _ x => x)
  obtain ⟨e, t, rfl, hC, he, hE⟩ := h₁
  obtain ⟨hp, g, d, tk, os⟩ := s₁
  repeat (first | with_reducible refine wpAny_loadPart_at he ?_ | with_reducible refine wpAny_loadPart_at hC ?_ | (with_reducible refine wpAny_isSubtype_exc hC ?_; rw [hcB]) | wp_step)
  unfold RaisesTo at hE
  cases hh : A.handled with
  | none => rw [hh] at hE; exact wpAny_raiseNew_none hh hE
  | some v =>
    rw [hh] at hE
    cases v with
    | ref e1 =>
      obtain ⟨o1, vs1, hne, h1, hd1, hc, hE⟩ := hE
      exact raiseNew_ctx hh hne he rfl (by simp) h1 hd1 hc hE
    | _ => exact hE.elim

theorem raise_call_any (F : ExcBaseFacts B newId initId bmB) {mN : Str → Option Value} {x : Str} {np cpos pos : Pos} {args : List Expr} {Q : Flow → Shared → Prop}
    (hbase : bm.contains (.type "BaseException") = true) (hplain : (backTo cpos (starEach args env)).any (·.1) = false) (hni : mN "__init__" = none)
    (h : wpAny (model prog w) A (eval (.Name x np) env) (fun f s₁ => f = .ref C ∧ wpAny (model prog w) A (evalArgs (.ref C) true (backTo cpos (starEach args env)) [])
      (fun a s₂ => a.kw = [] ∧ a.pos.length ≤ sizeLine ∧ s₂.heap.get? C = some (excClassObj nm q C N bs bm hdct sn sub ab col dd k0 k1 k2 k3 k5 newId) ∧ s₂.heap.Ns N mN ∧ OwnTail s₂.heap bmB bm ∧
        ∀ h' e, Heap.MadeExcOf s₂.heap h' e (.ref C) a.pos → RaisesTo A E e { s₂ with heap := h' }) E s₁) E s) :
    wpAny (model prog w) A (exec (.Raise (some (.Call (.Name x np) args [] cpos)) none pos) env) Q E s := by
  rw [arm_exec_Raise]
  refine wpAny_bind (wpAny_standAt (raiseStmt_any (C := C) (nm := nm) (q := q) (N := N) (bs := bs) (bm := bm) (hdct := hdct) (sn := sn) (sub := sub) (ab := ab) (col := col) (dd := dd) (k0 := k0) (k1 := k1) (k2 := k2) (k3 := k3) (k5 := k5) (newId := newId) hbase ?_))
  refine wpAny_bind (wpAny_mono (wpAny_Call_ofName (wpAny_mono h (fun f s₁ h₁ => ?_) fun _ _ x => x)) (fun v s₃ h₃ => wpAny_bind (wpAny_standAt (wpAny_pure h₃))) fun _ _ x => x)
  obtain ⟨rfl, h₁⟩ := h₁
  unfold callWith
  refine wpAny_bind (wpAny_holding (wpAny_mono h₁ (fun a s₂ h₂ => wpAny_bind (wpAny_standAt ?_)) fun _ _ x => x))
  obtain ⟨apos, akw⟩ := a
  obtain ⟨hkw, hlen, hC, hn, T, h₂⟩ := h₂
  obtain rfl : akw = [] := hkw
  obtain ⟨hp, g, d, tk, os⟩ := s₂
  simp only [hplain]
  refine wpAny_bind (wpAny_keeperOf_exc hC ?_)
  refine wpAny_bind (wpAny_call_exc_subT (hrest := hlen) F T hC hn hni fun h' e hm => wpAny_bind (wpAny_holding (wpAny_point (wpAny_pure ?_))))
  obtain ⟨t, ht, _, _⟩ := hm.there
  exact ⟨e, t, rfl, hm.keeps _ _ hC, ht, h₂ h' e hm⟩
end
end

/-- raise X('words') of an own class, within any def -/
theorem raise_words {prog : Program} {w : World} {A : Around} {E : Value → Shared → Prop} {s : Shared} {cn : Str} {cs : Scope} {L a : Addr} {ccd : Value} {cl : List (Str × Addr)} {h₀ : Heap} {m mg mb : Str → Option Value} {Kf : Frag} {p : Program} {loose : List Str}
    {x : Str} {C : Addr} {B newId initId : String} {bm : List Value} {np cpos pos kp : Pos} {words : Str} {kk : Nat} {Q : Flow → Shared → Prop} (F : Fr h₀ L s.heap m) (X : Kf.In h₀) (T : TopRead p loose mg mb h₀)
    (ex : nsIn Kf mainGlobals x = some (some (.ref C))) (q : excIn Kf C bm newId = true) (FB : ExcBaseFacts B newId initId bm)
    (h : ∀ h' e, Heap.MadeExcOf s.heap h' e (.ref C) [.str words s.toks] → RaisesTo A E e { s with heap := h', toks := s.toks + 1 })
    (hk : cs.kind = .function := by rfl) (hx : (envX cn cs L a ccd cl).kindOf x = some .globalImplicit := by rfl) (hd : (x == ("__debug__" : Str)) = false := by decide) :
    wpAny (model prog w) A (exec (.Raise (some (.Call (.Name x np) [.Constant (.str words) kk kp] [] cpos)) none pos) (envX cn cs L a ccd cl)) Q E s := by
  obtain ⟨tl, N, nm, q, bs, hdct, sn, sub, ab, col, dd, k0, k1, k2, k3, k5, mN, hC, hN, hni, T'⟩ := (own_of_in X T ex q).obj
  refine raise_call_any (C := C) (nm := nm) (q := q) (N := N) (bs := bs) (bm := tl) (hdct := hdct) (sn := sn) (sub := sub) (ab := ab) (col := col) (dd := dd) (k0 := k0) (k1 := k1) (k2 := k2) (k3 := k3) (k5 := k5)
    FB (mN := mN) (T'.hasType FB.hasBase) rfl hni (nameX_K F X T ex ⟨rfl, ?_⟩ hk hx hd)
  refine Calls.evalArgs_plain ?_
  refine Calls.spliced_cons (Calls.Constant_str (k := kk) (pos := kp) (Calls.spliced_nil ?_))
  exact ⟨rfl, by show 1 ≤ sizeLine; decide, F.keep _ _ hC, hN.keeps F.keep, T'.keeps F.keep, fun h' e hm => h h' e hm⟩
end Mine
end
theorem Mine.anewEx3 : True := by
  w_top off
  exact trivial
section
open PySem PySem.W PySem.Calls PyProof.Rows
set_option Elab.async false
set_option maxRecDepth 100000
set_option linter.unusedVariables false
namespace Mine

theorem Chg.drop {fs mods : List Addr} {T : Addr} {h h' : Heap} (x : Chg fs (T :: mods) h h') (hT : h.get? T = none) : Chg fs mods h h' :=
  ⟨fun b o e m f => x.keep b o e (fun q => by
      rcases List.mem_cons.mp q with z | z
      · rw [z, hT] at e; cases e
      · exact m z) f, fun b o e m f => x.slot b o e (fun q => by
      rcases List.mem_cons.mp q with z | z
      · rw [z, hT] at e; cases e
      · exact m z) f⟩
theorem Chg.add {fs mods : List Addr} (T : Addr) {h h' : Heap} (x : Chg fs mods h h') : Chg fs (T :: mods) h h' := x.mono (fun _ h => h) fun _ h => List.mem_cons_of_mem _ h
/-- an own exception that has left a def -/
structure Out (fs mods : List Addr) (h h' : Heap) (e C : Addr) (words : Str) : Prop where
  chg : Chg fs mods h h'
  fresh : h.get? e = none
  trc : ∃ T t vs tk, Trc h' e T (.ref C) vs .none ∧ h.get? T = none ∧ vs[0]? = some (.ref t) ∧ h'.TupAt t [.str words tk] ∧ h.get? t = none

section
variable {prog : Program} {w : World} {A A₀ : Around} {E : Value → Shared → Prop} {s : Shared} {base g : Heap} {outer : List Env} {L e T : Addr} {m mg mb : Str → Option Value} {cn : Str} {cs : Scope} {a : Addr} {ccd : Value} {cl : List (Str × Addr)}
  {Kf : Frag} {p : Program} {loose : List Str} {mean : ExcName → Option Value} {mods : List Addr} {news : List (Addr × Obj)}

/-- a new built-in exception is caught by its class's name -/
theorem caughtB {X Tn : String} {x : Str} {np pos : Pos} {b₀ : Stmt} {suite : List Stmt} {rest : List ExceptHandler} {Q : Flow → Shared → Prop} {tp : Value} {oe : Obj}
    (K : Below A₀ base outer g) (F : Fr g L s.heap m) (XB : Kf.In base) (TB : Top p loose mean mg mb base)
    (he : s.heap.get? e = some oe) (hcl : oe.cls = .type X) (hod : oe.data = .fields #[tp, .none, .none, .none, .bool false, .none]) (hen : g.get? e = none) (hne : e ≠ L)
    (ex : nsIn Kf mainGlobals x = some none) (hv : bootBuiltins x = some (.type Tn)) (hn : x ≠ "__name__")
    (hexc : isSubtype (.type Tn) (.type "BaseException") = pure true) (hnt : isSubtype (.type ((Manifest.find? Tn).elim "type" fun x => x.metatype)) (.type "tuple") = pure false) (hsub : isSubtype (.type X) (.type Tn) = pure true)
    (k : ∀ g' h' T, KtsTurn (frs outer) g g' → Fr g' L h' m → Below A₀ base outer g' → Chg (L :: frs outer) [e] s.heap h' → s.heap.get? T = none → Trc h' e T (.type X) #[tp, .ref T, .none, .none, .bool false, .none] .none →
      wpAny (model prog w) ((A₀.deeper (envX cn cs L a ccd cl)).mark (some (.ref e))) (execs (b₀ :: suite) (envX cn cs L a ccd cl)) Q
        (notedBy (model prog w) ((A₀.deeper (envX cn cs L a ccd cl)).mark (some (.ref e))) (envX cn cs L a ccd cl) (cameBackBy (model prog w) (A₀.deeper (envX cn cs L a ccd cl)) (envX cn cs L a ccd cl) E)) { s with heap := h' })
    (hk : cs.kind = .function := by rfl) (hx : (envX cn cs L a ccd cl).kindOf x = some .globalImplicit := by rfl) (hd : (x == ("__debug__" : Str)) = false := by decide) :
    wpAny (model prog w) (A₀.deeper (envX cn cs L a ccd cl)) (noteFrame (.ref e) (envX cn cs L a ccd cl))
      (fun _ s₂ => wpAny (model prog w) (A₀.deeper (envX cn cs L a ccd cl)) (setFlight (.ref e) none) (fun _ s₃ =>
        wpAny (model prog w) (A₀.deeper (envX cn cs L a ccd cl)) (handleBy (.ref e) (envX cn cs L a ccd cl) (.ExceptHandler (some (.Name x np)) none (b₀ :: suite) pos :: rest)) Q E s₃) E s₂) E s := by
  have K' : Below (A₀.deeper (envX cn cs L a ccd cl)) base (envX cn cs L a ccd cl :: outer) s.heap := pushX K F rfl hk
  have hms : ∀ b ∈ [e], g.get? b = none := fun b hb => by rw [List.mem_singleton.mp hb]; exact hen
  have hLm : L ∉ [e] := fun q => hne (List.mem_singleton.mp q).symm
  refine noteFrame_new K'.stack K'.frames rfl he hod rfl fun h' T C1 hT x1 => ?_
  rw [hcl] at x1
  refine setFlight_trc (s := { s with heap := h' }) x1 fun h2 C2 x2 => ?_
  have C12 : Chg (L :: frs outer) [e] s.heap h2 := by
    have q1 : Chg (L :: frs outer) [T, e] s.heap h' := C1.add T
    have q2 : Chg (L :: frs outer) [T, e] h' h2 := C2.mono (fun _ h => nomatch h) fun b hb => by rw [List.mem_singleton.mp hb]; exact List.mem_cons_self
    exact (q1.trans q2).drop hT
  obtain ⟨g1, T1, F1, K1⟩ := ground_turn K F C12 hms hLm
  have X1 : Kf.In g1 := XB.keeps K1.stays
  have TT1 : Top p loose mean mg mb g1 := TB.keeps K1.stays
  refine wpAny_handleBy_builtin (X := X) (T := Tn) (b := true) hexc hnt hsub (nameX_B (s := { s with heap := h2 }) F1 X1 (topRead_of TT1) ex hv hn ⟨rfl, ?_, ?_⟩ hk hx hd)
  · obtain ⟨oe, h1, h2, _⟩ := x2.exc
    exact ⟨oe, h1, h2⟩
  · rw [if_pos rfl]
    refine setFlight_trc (s := { s with heap := h2 }) x2 fun h3 C3 x3 => ?_
    have C13 : Chg (L :: frs outer) [e] s.heap h3 := by
      have q1 : Chg (L :: frs outer) [T, e] s.heap h2 := C12.add T
      have q2 : Chg (L :: frs outer) [T, e] h2 h3 := C3.mono (fun _ h => nomatch h) fun b hb => by rw [List.mem_singleton.mp hb]; exact List.mem_cons_self
      exact (q1.trans q2).drop hT
    obtain ⟨g3, T3, F3, K3⟩ := ground_turn K F C13 hms hLm
    exact k g3 h3 T T3 F3 K3 C13 hT x3

/-- an own exception raised in a handler's suite, noted there -/
theorem raise_in_suite {x : Str} {C e1 T1 : Addr} {vs1 : Array Value} {cls1 fl1 : Value} {B newId initId : String} {bm : List Value} {np cpos pos kp : Pos} {words : Str} {kk : Nat} {Q : Flow → Shared → Prop} {E0 : Value → Shared → Prop}
    (K : Below A₀ base outer g) (F : Fr g L s.heap m) (XB : Kf.In base) (TB : Top p loose mean mg mb base)
    (ht : Trc s.heap e1 T1 cls1 vs1 fl1) (hc : vs1[2]? = some .none)
    (ex : nsIn Kf mainGlobals x = some (some (.ref C))) (q : excIn Kf C bm newId = true) (FB : ExcBaseFacts B newId initId bm)
    (k : ∀ h' e T t vs, Chg (L :: frs outer) [] s.heap h' → s.heap.get? e = none → s.heap.get? T = none → s.heap.get? t = none → Trc h' e T (.ref C) vs (rawInt L) → vs[0]? = some (.ref t) → h'.TupAt t [.str words s.toks] →
      E0 (.ref e) { s with heap := h', toks := s.toks + 1 })
    (hk : cs.kind = .function := by rfl) (hx : (envX cn cs L a ccd cl).kindOf x = some .globalImplicit := by rfl) (hd : (x == ("__debug__" : Str)) = false := by decide) :
    wpAny (model prog w) ((A₀.deeper (envX cn cs L a ccd cl)).mark (some (.ref e1))) (exec (.Raise (some (.Call (.Name x np) [.Constant (.str words) kk kp] [] cpos)) none pos) (envX cn cs L a ccd cl)) Q
      (notedBy (model prog w) ((A₀.deeper (envX cn cs L a ccd cl)).mark (some (.ref e1))) (envX cn cs L a ccd cl) (cameBackBy (model prog w) (A₀.deeper (envX cn cs L a ccd cl)) (envX cn cs L a ccd cl) E0)) s := by
  have Kg : Kf.In g := XB.keeps K.stays
  have Tg : Top p loose mean mg mb g := TB.keeps K.stays
  refine raise_words F Kg (topRead_of Tg) ex q FB (fun h1 e hm => ?_) hk hx hd
  obtain ⟨o1, he1, hcls1, hd1⟩ := ht.exc
  obtain ⟨t, het, htn, htt⟩ := hm.there
  have hne : e1 ≠ e := fun z => by have := hm.new; rw [← z, he1] at this; cases this
  show RaisesTo ((A₀.deeper (envX cn cs L a ccd cl)).mark (some (.ref e1))) _ e _
  unfold RaisesTo
  show ∃ o1 vs1, _
  refine ⟨o1, vs1, hne, hm.keeps _ _ he1, hd1, hc, ?_⟩
  have hd₃ := Obj.data_mapFields (o := { cls := Value.ref C, data := .fields #[.ref t, .none, .none, .none, .bool false, .none] }) rfl (·.setIfInBounds 2 (Value.ref e1))
  have he₃ := Heap.get?_update_self (Obj.mapFields (·.setIfInBounds 2 (Value.ref e1))) het (Obj.isFreed_of_fields hd₃)
  have other : ∀ b, b ≠ e → (h1.update e (Obj.mapFields (·.setIfInBounds 2 (Value.ref e1)))).get? b = h1.get? b := fun b hb => Heap.get?_update_other _ _ (Ne.symm hb)
  generalize hh2 : h1.update e (Obj.mapFields (·.setIfInBounds 2 (Value.ref e1))) = h2 at *
  have old : ∀ b o, s.heap.get? b = some o → h2.get? b = some o := fun b o hb => (other b fun z => by have := hm.new; rw [← z, hb] at this; cases this).trans (hm.keeps b o hb)
  have F2 : Fr g L h2 m := ⟨F.ns.keeps old, fun b o e => old _ _ (F.keep b o e), F.above⟩
  have K' : Below (A₀.deeper (envX cn cs L a ccd cl)) base (envX cn cs L a ccd cl :: outer) h2 := pushX K F2 rfl hk
  show wpAny _ _ (noteFrame (.ref e) _) _ _ _
  refine noteFrame_new (base := base) (outer := outer) (s := { s with heap := h2, toks := s.toks + 1 }) (show ((A₀.deeper (envX cn cs L a ccd cl)).mark (some (Value.ref e1))).frames = some (envX cn cs L a ccd cl :: outer) from K'.stack) K'.frames rfl he₃ hd₃ rfl fun h3 T C3 hT x3 => ?_
  show wpAny _ _ (field (.ref e) 1 >>= _) _ _ _
  have x3' := x3
  obtain ⟨⟨oe, hoe, hcls, hde⟩, htb, hTe, hTr⟩ := x3
  refine wpAny_bind (wpAny_field hoe hde htb ?_)
  rw [if_neg (by simp)]
  refine setFlight_trc (s := { s with heap := h3, toks := s.toks + 1 }) (fr := some L) x3' fun h4 C4 x4 => ?_
  have hen := hm.new
  have hTn : s.heap.get? T = none := by
    cases z : s.heap.get? T with
    | none => rfl
    | some o => have := old _ _ z; rw [hT] at this; cases this
  have tne : t ≠ e := fun z => by rw [z, het] at htt; cases htt
  have htt2 : h2.get? t = some { cls := .type "tuple", data := .seq [Value.str words s.toks].toArray } := (other t tne).trans htt
  have tT : t ≠ T := fun z => by rw [z] at htt2; rw [hT] at htt2; cases htt2
  have C24 : Chg (L :: frs outer) [T, e] h2 h4 := by
    have q1 : Chg (L :: frs outer) [T, e] h2 h3 := C3.add T
    exact q1.trans (C4.mono (fun _ h => nomatch h) fun b hb => by rw [List.mem_singleton.mp hb]; exact List.mem_cons_self)
  obtain ⟨sl, hts⟩ := C24.up htt2 (by simp [tne, tT])
  refine k h4 e T t ((#[Value.ref t, Value.none, Value.none, Value.none, Value.bool false, Value.none].setIfInBounds 2 (Value.ref e1)).setIfInBounds 1 (Value.ref T)) ?_ hen hTn htn ?_ rfl ⟨_, _, hts, rfl, rfl⟩
  · exact (((Chg.of_keeps old).trans C24).drop hTn).drop hen
  · have e1 : (Obj.mapFields (fun x => x.setIfInBounds 2 (Value.ref e1)) { cls := Value.ref C, data := .fields #[.ref t, .none, .none, .none, .bool false, .none] }).cls = .ref C := Obj.cls_mapFields _ _
    rw [e1] at x4
    exact x4

/-- leaving a def with an exception that was noted there -/
theorem leave_noted {env : Env} {cls : Value} {vs : Array Value} (hf : env.frame = some L) (x : Trc s.heap e T cls vs (rawInt L)) {Q : Unit → Shared → Prop}
    (hQ : ∀ h', Chg [] [T] s.heap h' → Trc h' e T cls vs .none → Q () { s with heap := h' }) : wpAny (model prog w) A (leaving env (.ref e)) Q E s := by
  unfold leaving
  exact wpAny_bind (noteFrame_again hf x (setFlight_trc x hQ))

/-- leaving a def with an exception that was just made -/
theorem leave_made {C : Addr} {words : Str} {tk : Tok} {h : Heap} (K : Below A₀ base outer g) (F : Fr g L h m) (hm : Heap.MadeExcOf h s.heap e (.ref C) [.str words tk]) {Q : Unit → Shared → Prop}
    (hQ : ∀ h' , Out (L :: frs outer) [] h h' e C words → Q () { s with heap := h' }) (hk : cs.kind = .function := by rfl) :
    wpAny (model prog w) (A₀.deeper (envX cn cs L a ccd cl)) (leaving (envX cn cs L a ccd cl) (.ref e)) Q E s := by
  obtain ⟨t, het, htn, htt⟩ := hm.there
  have F2 : Fr g L s.heap m := ⟨F.ns.keeps hm.keeps, fun b o e => hm.keeps _ _ (F.keep b o e), F.above⟩
  have K' : Below (A₀.deeper (envX cn cs L a ccd cl)) base (envX cn cs L a ccd cl :: outer) s.heap := pushX K F2 rfl hk
  unfold leaving
  refine wpAny_bind (noteFrame_new K'.stack K'.frames rfl het rfl rfl fun h3 T C3 hT x3 => ?_)
  refine setFlight_trc (s := { s with heap := h3 }) x3 fun h4 C4 x4 => hQ h4 ?_
  have hTn : h.get? T = none := by
    cases z : h.get? T with
    | none => rfl
    | some o => have := hm.keeps _ _ z; rw [hT] at this; cases this
  have tne : t ≠ e := fun z => by rw [z, het] at htt; cases htt
  have tT : t ≠ T := fun z => by rw [z] at htt; rw [hT] at htt; cases htt
  have C24 : Chg (L :: frs outer) [T, e] s.heap h4 := by
    have q1 : Chg (L :: frs outer) [T, e] s.heap h3 := C3.add T
    exact q1.trans (C4.mono (fun _ h => nomatch h) fun b hb => by rw [List.mem_singleton.mp hb]; exact List.mem_cons_self)
  obtain ⟨sl, hts⟩ := C24.up htt (by simp [tne, tT])
  exact ⟨(((Chg.of_keeps hm.keeps).trans C24).drop hTn).drop hm.new, hm.new, T, t, _, tk, x4, hTn, rfl, ⟨_, _, hts, rfl, rfl⟩, htn⟩

end
end Mine
end
theorem Mine.anewSrc : True := by
  w_top off
  exact trivial
section
open PySem PySem.W PySem.Calls PyProof.Rows
set_option Elab.async false
set_option maxRecDepth 100000
set_option linter.unusedVariables false
namespace Mine

/-- values that bear numbers -/
def NmsAre (vs : List Value) (xs : List Nm) : Prop := vs.length = xs.length ∧ ∀ (i : Nat) v, vs[i]? = some v → ∃ a, xs[i]? = some a ∧ NmIs v a
/-- a list, or a fresh iterator over one -/
inductive SrcAt (h : Heap) (vs : List Value) : Value → List Addr → Prop
  | list {l : Addr} : h.IsList l vs.toArray → SrcAt h vs (.ref l) []
  | iter {I l : Addr} : h.IsListIter I l 0 → h.IsList l vs.toArray → l ≠ I → SrcAt h vs (.ref I) [I]

section
variable {prog : Program} {w : World} {A : Around} {E : Value → Shared → Prop} {s : Shared} {v : Value} {vs : List Value} {mods : List Addr}

theorem src_iter (hA : A.handled = none) (S : SrcAt s.heap vs v mods) {Q : Value → Shared → Prop}
    (h : ∀ I l h', Walks prog w A I [I, l] [I] vs.toArray.size (fun i u => vs.toArray[i]? = some u) (fun i h => h.IsListIter I l i ∧ h.IsList l vs.toArray) → (h'.IsListIter I l 0 ∧ h'.IsList l vs.toArray) → (∀ b o, s.heap.get? b = some o → h'.get? b = some o) → I < h'.objs.size → l < h'.objs.size → l ≠ I →
      (I ∈ mods ∨ s.heap.get? I = none) → Q (.ref I) { s with heap := h' }) : wpAny (model prog w) A (pyIter v) Q E s := by
  cases S with
  | @list l hl =>
    have hlt : l < s.heap.objs.size := by obtain ⟨_, e, _⟩ := hl; exact Heap.lt_size e
    refine wpAny_pyIter_list hl (h s.heap.objs.size l _ (Walks.list hA _ l (Nat.ne_of_lt hlt) _) ⟨⟨_, Heap.get?_push_size _ rfl, rfl, rfl⟩, hl.push _⟩ (fun b o e => Heap.get?_push_of_some _ e) ?_ ?_ (Nat.ne_of_lt hlt) (.inr (Heap.get?_none_of_le (Nat.le_refl _))))
    · rw [Heap.size_push]; exact Nat.lt_succ_self _
    · rw [Heap.size_push]; exact Nat.lt_succ_of_lt hlt
  | @iter I l hi hl hne =>
    refine wpAny_pyIter_listiter hi (h I l s.heap (Walks.list hA _ l hne _) ⟨hi, hl⟩ (fun _ _ e => e) ?_ ?_ hne (.inl List.mem_cons_self))
    · obtain ⟨_, e, _⟩ := hi; exact Heap.lt_size e
    · obtain ⟨_, e, _⟩ := hl; exact Heap.lt_size e

theorem src_item {i : Nat} {u : Value} {xs : List Nm} (hN : NmsAre vs xs) (h : vs.toArray[i]? = some u) : ∃ a, xs[i]? = some a ∧ NmIs u a := hN.2 i u (by simpa using h)

theorem fsum_src (hA : A.handled = none) (S : SrcAt s.heap vs v mods) {xs : List Nm} (hN : NmsAre vs xs) (hfit : ∀ a ∈ xs, a.fits) (hlen : xs.length < sizeLine) (hok : fsumOk [] (xs.map Nm.real)) {Q : Value → Shared → Prop}
    (h : ∀ h' tk t, (∀ b o, b ∉ mods → s.heap.get? b = some o → h'.get? b = some o) → Q (.float (fsumP (xs.map Nm.real)) t) { s with heap := h', toks := tk }) :
    wpAny (model prog w) A (call (.builtin "math.fsum") [v]) Q E s := by
  refine call_fsum hA hfit hlen hok (src_iter (A := A.in1) hA S fun I l h' W st hk hI hl hne hnew => ?_)
  have hsz : vs.toArray.size = xs.length := by simpa using hN.1
  rw [hsz] at W
  refine ⟨I, [I, l], [I], _, _, _, rfl, W.toS, st, fun b hb => ?_, fun i u hu => src_item hN hu, fun s' t hm => ?_⟩
  · rcases List.mem_cons.mp hb with rfl | hb
    · exact hI
    · rw [List.mem_singleton.mp hb]; exact hl
  · have hm' : s' = { s with heap := s'.heap, toks := s'.toks } := by
      obtain ⟨h1, g1, d1, t1, o1⟩ := s'
      obtain ⟨_, hg, hd, ho, _⟩ := hm
      simp only at hg hd ho ⊢
      rw [hg, hd, ho]
    rw [hm']
    refine h _ _ t fun b o hb e => hm.heap b o (fun q => ?_) (hk b o e)
    rw [List.mem_singleton.mp q] at hb e
    rcases hnew with z | z
    · exact hb z
    · rw [z] at e; cases e

theorem iter_ne_list {h : Heap} {I l i : Nat} {l' : Addr} {items : Array Value} (x : h.IsListIter I l' i) (y : h.IsList l items) : I ≠ l := fun q => by
  obtain ⟨o, ho, hc, _⟩ := x
  obtain ⟨o', ho', hc', _⟩ := y
  rw [q, ho'] at ho
  cases ho
  rw [hc] at hc'
  simp at hc'

/-- a source and a list, each walked from its start -/
theorem sp_src {vs2 : List Value} {r2 : Addr} (hA : A.handled = none) (S1 : SrcAt s.heap vs v mods) (hl2 : s.heap.IsList r2 vs2.toArray) {Q : Value → Shared → Prop}
    (h : ∀ I J l1 (s₂ : Shared), Two prog w A.in1 I J ([I, l1] ++ [J, r2]) ([I] ++ [J]) (fun a b => b = a) vs.toArray.size vs2.toArray.size (fun i u => vs.toArray[i]? = some u) (fun i u => vs2.toArray[i]? = some u)
        (fun i j (s : Shared) => (s.heap.IsListIter I l1 i ∧ s.heap.IsList l1 vs.toArray) ∧ (s.heap.IsListIter J r2 j ∧ s.heap.IsList r2 vs2.toArray)) →
      ((s₂.heap.IsListIter I l1 0 ∧ s₂.heap.IsList l1 vs.toArray) ∧ (s₂.heap.IsListIter J r2 0 ∧ s₂.heap.IsList r2 vs2.toArray)) →
      s₂ = { s with heap := s₂.heap } → (∀ b o, s.heap.get? b = some o → s₂.heap.get? b = some o) → (∀ b ∈ [I, l1] ++ [J, r2], b < s₂.heap.objs.size) → (∀ b ∈ [I] ++ [J], b ∈ mods ∨ s.heap.get? b = none) →
      codeAny (model prog w) A (.builtin "math.sumprod.loop" ⟨[.ref I, .ref J, .int 0 s₂.toks, .bool true, rawInt 0, .bool false, .bool true, .ref s₂.heap.objs.size, .bool false], []⟩) (RetQ Q E) { s₂ with heap := s₂.heap.push (triTup zero3 0), toks := s₂.toks + 1 }) :
    wpAny (model prog w) A (call (.builtin "math.sumprod") [v, .ref r2]) Q E s := by
  have hr2 : r2 < s.heap.objs.size := by obtain ⟨_, e, _⟩ := hl2; exact Heap.lt_size e
  refine call_sp_enter (src_iter (A := A.in1) hA S1 fun I l1 h1 W1 st1 hk1 hI hl1 hne1 hnew1 => ?_)
  have hl2' : h1.IsList r2 vs2.toArray := hl2.at fun o e => hk1 _ _ e
  have hIr : I ≠ r2 := iter_ne_list st1.1 hl2'
  have hr2' : r2 < h1.objs.size := by obtain ⟨_, e, _⟩ := hl2'; exact Heap.lt_size e
  refine wpAny_pyIter_list (s := { s with heap := h1 }) hl2' ?_
  have n1 : h1.objs.size ≠ I := Nat.ne_of_gt hI
  have n2 : h1.objs.size ≠ l1 := Nat.ne_of_gt hl1
  refine h I h1.objs.size l1 _ (Two.of_walks W1 (Walks.list (A := A.in1) hA _ r2 (Nat.ne_of_lt hr2') _) ?_ ?_) ⟨⟨?_, st1.2.push _⟩, ⟨⟨_, Heap.get?_push_size _ rfl, rfl, rfl⟩, hl2'.push _⟩⟩ rfl (fun b o e => Heap.get?_push_of_some _ (hk1 _ _ e)) ?_ ?_
  · intro b hb
    rw [List.mem_singleton.mp hb]
    simp only [List.mem_cons, List.not_mem_nil, or_false, not_or]
    exact ⟨Ne.symm n1, hIr⟩
  · intro b hb
    rw [List.mem_singleton.mp hb]
    simp only [List.mem_cons, List.not_mem_nil, or_false, not_or]
    exact ⟨n1, n2⟩
  · exact st1.1.at fun o e => Heap.get?_push_of_some _ e
  · intro b hb
    show b < (h1.push _).objs.size
    rw [Heap.size_push]
    simp only [List.cons_append, List.nil_append, List.mem_cons, List.not_mem_nil, or_false] at hb
    rcases hb with rfl | rfl | rfl | rfl
    · exact Nat.lt_succ_of_lt hI
    · exact Nat.lt_succ_of_lt hl1
    · exact Nat.lt_succ_self _
    · exact Nat.lt_succ_of_lt hr2'
  · intro b hb
    simp only [List.cons_append, List.nil_append, List.mem_cons, List.not_mem_nil, or_false] at hb
    rcases hb with rfl | rfl
    · exact hnew1
    · right
      cases z : s.heap.get? h1.objs.size with
      | none => rfl
      | some o => exact absurd (Heap.lt_size (hk1 _ _ z)) (Nat.lt_irrefl _)

/-- the error of a sum of products -/
theorem sp_ints {vs2 : List Value} {r2 : Addr} (hA : A.handled = none) (S1 : SrcAt s.heap vs v mods) (hl2 : s.heap.IsList r2 vs2.toArray) {xs ys : List Int} (hi1 : IntsAre vs xs) (hi2 : IntsAre vs2 ys)
    (hmul : ∀ (i : Nat) a b, xs[i]? = some a → ys[i]? = some b → IntMulOk a b) {Q : Value → Shared → Prop}
    (h : xs.length = ys.length → ∀ h' tk t, (∀ b o, b ∉ mods → s.heap.get? b = some o → h'.get? b = some o) → Q (.int (dot xs ys) t) { s with heap := h', toks := tk })
    (hE : xs.length ≠ ys.length → ∀ h₁ h' tk e, (∀ b o, b ∉ mods → s.heap.get? b = some o → h₁.get? b = some o) → Heap.NewExc h₁ h' e "ValueError" → E (.ref e) { s with heap := h', toks := tk }) :
    wpAny (model prog w) A (call (.builtin "math.sumprod") [v, .ref r2]) Q E s := by
  refine sp_src hA S1 hl2 fun I J l1 s₂ W st es hk hB hnew => ?_
  have n1 : vs.toArray.size = xs.length := by simpa using hi1.length
  have n2 : vs2.toArray.size = ys.length := by simpa using hi2.length
  rw [n1, n2] at W
  have at_ : ∀ {vs : List Value} {xs : List Int}, IntsAre vs xs → ∀ (i : Nat) u, vs.toArray[i]? = some u → ∃ a t, xs[i]? = some a ∧ u = .int a t := by
    intro vs xs hi
    induction hi with
    | nil => intro i u hu; simp at hu
    | @cons n t vs ns _ ih =>
      intro i u hu
      cases i with
      | zero => simp at hu; exact ⟨n, _, rfl, hu.symm⟩
      | succ i => simp at hu; exact ih i u (by simpa using hu)
  have fold : ∀ s' : Shared, Moved ([I] ++ [J]) (fun a b => b = a) s₂ s' → s' = { s with heap := s'.heap, toks := s'.toks } ∧ ∀ b o, b ∉ mods → s.heap.get? b = some o → s'.heap.get? b = some o := by
    intro s' hm
    refine ⟨?_, fun b o hb e => hm.heap b o (fun q => ?_) (hk b o e)⟩
    · obtain ⟨h1, g1, d1, t1, o1⟩ := s'
      obtain ⟨_, hg, hd, ho, _⟩ := hm
      rw [es] at hg hd ho
      simp only at hg hd ho ⊢
      rw [hg, hd, ho]
    · rcases hnew b q with z | z
      · exact hb z
      · rw [z] at e; cases e
  have un : ∀ {s' : Shared}, Moved ([I] ++ [J]) (fun a b => b = a) { s₂ with heap := s₂.heap.push (triTup zero3 0), toks := s₂.toks + 1 } s' → Moved ([I] ++ [J]) (fun a b => b = a) s₂ s' := fun hm =>
    ⟨fun b o hb e => hm.heap b o hb (Heap.get?_push_of_some _ e), hm.gens, hm.drawn, hm.os, Nat.le_trans (Nat.le_succ _) hm.toks⟩
  refine codeAny_sp_ints (A := A) hA W (at_ hi1) (at_ hi2) hmul s₂.heap.objs.size hB xs.length 0 _ _ _ _ _ _ _ zero3 0 (by omega) (Nat.zero_le _) (Nat.zero_le _) ⟨⟨st.1.1.at fun o e => Heap.get?_push_of_some _ e, st.1.2.push _⟩, ⟨st.2.1.at fun o e => Heap.get?_push_of_some _ e, st.2.2.push _⟩⟩
    (.spI _) (Nat.le_refl _) (Heap.get?_push_size _ rfl) (fun he s' t hm => ?_) (fun hne s' h' tk e hm hx => ?_)
  · obtain ⟨e1, e2⟩ := fold s' (un hm)
    show Q _ s'
    rw [e1]
    exact h he _ _ t e2
  · obtain ⟨e1, e2⟩ := fold s' (un hm)
    show E _ _
    rw [e1]
    exact hE hne s'.heap h' tk e e2 hx

theorem sp_flts {vs2 : List Value} {r2 : Addr} (hA : A.handled = none) (S1 : SrcAt s.heap vs v mods) (hl2 : s.heap.IsList r2 vs2.toArray) {xs ys : List Nm} (hi1 : NmsAre vs xs) (hi2 : NmsAre vs2 ys) (hlen : xs.length = ys.length)
    (hf1 : ∀ a ∈ xs, a.fits) (hf2 : ∀ a ∈ ys, a.fits) (hone : ∀ (i : Nat) a b, xs[i]? = some a → ys[i]? = some b → (a.isf || b.isf) = true) (hok : triOk zero3 ((xs.map Nm.real).zip (ys.map Nm.real))) {Q : Value → Shared → Prop}
    (h : ∀ h' tk u, NmIs u (sprodF ((xs.map Nm.real).zip (ys.map Nm.real))) → (∀ b o, b ∉ mods → s.heap.get? b = some o → h'.get? b = some o) → Q u { s with heap := h', toks := tk }) :
    wpAny (model prog w) A (call (.builtin "math.sumprod") [v, .ref r2]) Q E s := by
  refine sp_src hA S1 hl2 fun I J l1 s₂ W st es hk hB hnew => ?_
  have n1 : vs.toArray.size = xs.length := by simpa using hi1.1
  have n2 : vs2.toArray.size = ys.length := by simpa using hi2.1
  rw [n1, n2] at W
  have fold : ∀ s' : Shared, Moved ([I] ++ [J]) (fun a b => b = a) s₂ s' → s' = { s with heap := s'.heap, toks := s'.toks } ∧ ∀ b o, b ∉ mods → s.heap.get? b = some o → s'.heap.get? b = some o := by
    intro s' hm
    refine ⟨?_, fun b o hb e => hm.heap b o (fun q => ?_) (hk b o e)⟩
    · obtain ⟨h1, g1, d1, t1, o1⟩ := s'
      obtain ⟨_, hg, hd, ho, _⟩ := hm
      rw [es] at hg hd ho
      simp only at hg hd ho ⊢
      rw [hg, hd, ho]
    · rcases hnew b q with z | z
      · exact hb z
      · rw [z] at e; cases e
  have un : ∀ {s' : Shared}, Moved ([I] ++ [J]) (fun a b => b = a) { s₂ with heap := s₂.heap.push (triTup zero3 0), toks := s₂.toks + 1 } s' → Moved ([I] ++ [J]) (fun a b => b = a) s₂ s' := fun hm =>
    ⟨fun b o hb e => hm.heap b o hb (Heap.get?_push_of_some _ e), hm.gens, hm.drawn, hm.os, Nat.le_trans (Nat.le_succ _) hm.toks⟩
  refine codeAny_sp_flts (A := A) hA hlen W (fun i u hu => src_item hi1 hu) (fun i u hu => src_item hi2 hu) hf1 hf2 hone s₂.heap.objs.size hB xs.length 0 _ true false _ zero3 0 _ (by omega) (Nat.zero_le _) ⟨⟨st.1.1.at fun o e => Heap.get?_push_of_some _ e, st.1.2.push _⟩, ⟨st.2.1.at fun o e => Heap.get?_push_of_some _ e, st.2.2.push _⟩⟩
    (fun _ => rfl) (fun h0 => absurd h0 (Nat.lt_irrefl _)) (Nat.le_refl _) (Heap.get?_push_size _ rfl) (by simpa using hok) (fun s' u hu hm => ?_)
  obtain ⟨e1, e2⟩ := fold s' (un hm)
  show Q _ s'
  rw [e1]
  refine h _ _ u ?_ e2
  unfold sprodF
  cases xs with
  | nil => simpa using hu
  | cons a xs =>
    cases ys with
    | nil => simp at hlen
    | cons b ys => simpa using hu
end
end Mine
end
theorem Mine.anewEn : True := by
  w_top off
  exact trivial
section
open PySem PySem.W PySem.Calls PyProof.Rows
set_option Elab.async false
set_option maxRecDepth 100000
set_option linter.unusedVariables false
namespace Mine
section
variable {prog : Program} {w : World} {A₀ : Around} {s : Shared} {base : Heap} {outer : List Env} {mods : List Addr} {Kf : Frag} {p : Program} {loose : List Str} {mean : ExcName → Option Value} {mg mb : Str → Option Value}
  {R : Result → Shared → Prop} {name qual : Str} {params : Arguments} {body : List Stmt} {scope : Scope} {dV kV doc pm cdv ct oc : Value} {an od : Option Addr} {osl : Array (Option Value)} {f : Addr} {args : Args} {binds : List (Str × Value)}

/-- a def is entered: the ground is all that stands, without what may turn -/
theorem enter_plain2 (K0 : Below A₀ base outer s.heap) (hm : ∀ b ∈ mods, base.get? b = none ∧ b ∉ frs outer) (XB : Kf.In base) (TB : Top p loose mean mg mb base)
    (ho : Kf.lookup f = some ⟨oc, od, .func (fnOf name qual params body scope dV kV doc pm an cdv ct), osl⟩) (hcd : codeIn Kf cdv qual = true) (hroom : A₀.depth < recursionLimit)
    (hbind : BindsTo s (fnOf name qual params body scope dV kV doc pm an cdv ct) args binds) (hloc : ∀ y ∈ binds, scope.names.lookup y.1 = some .local)
    (h : ∀ g L' h₁, Fr g L' h₁ (fun y => binds.reverse.lookup y) → Below A₀ base outer g → Kf.In g → Top p loose mean mg mb g → (∀ b o, b ∉ mods → s.heap.get? b = some o → g.get? b = some o) → (∀ b ∈ mods, g.get? b = none) → (∀ b o, s.heap.get? b = some o → h₁.get? b = some o) → L' = s.heap.objs.size →
      wpAny (model prog w) (A₀.deeper (envOf qual scope L' f cdv)) (execs body (envOf qual scope L' f cdv))
        (fun fl s' => R (.ok (.ret (match fl with | .ret v => v | _ => .none))) s')
        (fun e s' => wpAny (model prog w) (A₀.deeper (envOf qual scope L' f cdv)) (leaving (envOf qual scope L' f cdv) e) (fun _ s'' => R (.error e) s'') (fun e' s'' => R (.error e') s'') s')
        { s with heap := h₁, toks := s.toks + binds.length })
    (hcell : ∀ x ∈ scope.names, x.2 ≠ .cell) (hco : scope.isCoroutine = false := by rfl) (hgen : scope.isGenerator = false := by rfl) (hk : scope.kind = .function := by rfl) : codeAny (model prog w) A₀ (.call (.ref f) args) R s := by
  have X : Kf.In s.heap := XB.keeps K0.stays
  have T : Top p loose mean mg mb s.heap := TB.keeps K0.stays
  have Kg := hide_below K0 hm
  refine codeAny_call_def (fd := fnOf name qual params body scope dV kV doc pm an cdv ct) (body := body) (binds := binds) hroom (X _ _ ho) rfl T.nolimit (codeRec_of X hcd) rfl hbind hcell hloc (fun h₁ hns hk₁ => ?_) hco hgen hk
  refine h (hideAll s.heap mods) s.heap.objs.size h₁ ⟨hns, fun b o e => hk₁ b o (of_hideAll _ e), Nat.le_of_eq (hideAll_size _ _)⟩ Kg (XB.keeps Kg.stays) (TB.keeps Kg.stays) (fun b o m e => hideAll_get _ e m) (fun b hb => hideAll_none _ hb) hk₁ rfl

/-- the same, of a def with cells -/
theorem enter_cells2 (K0 : Below A₀ base outer s.heap) (hm : ∀ b ∈ mods, base.get? b = none ∧ b ∉ frs outer) (XB : Kf.In base) (TB : Top p loose mean mg mb base)
    (ho : Kf.lookup f = some ⟨oc, od, .func (fnOf name qual params body scope dV kV doc pm an cdv ct), osl⟩) (hcd : codeIn Kf cdv qual = true) (hroom : A₀.depth < recursionLimit)
    (hbind : BindsTo s (fnOf name qual params body scope dV kV doc pm an cdv ct) args binds)
    (hkind : (binds.all fun y => scope.names.lookup y.1 == some .local || scope.names.lookup y.1 == some .cell) = true) (hnd : ((cellsFrom 0 scope.names []).map (·.1)).Nodup)
    (h : ∀ g L' h₁ tk cells, Fr g L' h₁ (bindL (envOfC qual scope L' f cdv).kindOf binds fun _ => none) → News g L' h₁ cells →
      CellsAre (bindC (envOfC qual scope L' f cdv).kindOf binds fun _ => none) (cellsFrom (L' + 1) scope.names []) cells → Below A₀ base outer g → Kf.In g → Top p loose mean mg mb g → (∀ b o, b ∉ mods → s.heap.get? b = some o → g.get? b = some o) → (∀ b ∈ mods, g.get? b = none) → (∀ b o, s.heap.get? b = some o → h₁.get? b = some o) → L' = s.heap.objs.size →
      wpAny (model prog w) (A₀.deeper (envOfC qual scope L' f cdv)) (execs body (envOfC qual scope L' f cdv))
        (fun fl s' => R (.ok (.ret (match fl with | .ret v => v | _ => .none))) s')
        (fun e s' => wpAny (model prog w) (A₀.deeper (envOfC qual scope L' f cdv)) (leaving (envOfC qual scope L' f cdv) e) (fun _ s'' => R (.error e) s'') (fun e' s'' => R (.error e') s'') s')
        { s with heap := h₁, toks := tk })
    (hco : scope.isCoroutine = false := by rfl) (hgen : scope.isGenerator = false := by rfl) (hk : scope.kind = .function := by rfl) : codeAny (model prog w) A₀ (.call (.ref f) args) R s := by
  have X : Kf.In s.heap := XB.keeps K0.stays
  have T : Top p loose mean mg mb s.heap := TB.keeps K0.stays
  have Kg := hide_below K0 hm
  refine codeAny_call_function hroom (X _ _ ho) rfl hco hgen rfl (codeRec_of X hcd) (hbind _ _ _ _ ?_)
  refine wpAny_newFunctionEnv_cells hk (kindsX hkind _) fun env' he s' x => ?_
  subst he
  refine ⟨T.nolimit.keeps x.toInCall.keep, codeAny_func ?_⟩
  obtain ⟨h₁, tk, rfl, _⟩ := x.done
  have hk₁ := x.toInCall.keep
  obtain ⟨cells, NC, Y⟩ := Cl.news (h₀ := s.heap) (Nat.le_refl _) fun n c hm => ⟨x.cell n c (lookup_of_mem_nodup (cellsFrom_names scope.names 0 (s.heap.objs.size + 1) [] [] rfl ▸ hnd) hm), x.above n c hm⟩
  refine h (hideAll s.heap mods) s.heap.objs.size h₁ tk cells ⟨x.toInCall.ns, fun b o e => hk₁ b o (of_hideAll _ e), Nat.le_of_eq (hideAll_size _ _)⟩ (fun q hq => ⟨(NC q hq).1, (NC q hq).2.1, ?_⟩) Y Kg (XB.keeps Kg.stays) (TB.keeps Kg.stays) (fun b o m e => hideAll_get _ e m) (fun b hb => hideAll_none _ hb) hk₁ rfl
  cases q' : (hideAll s.heap mods).get? q.1 with
  | none => rfl
  | some o => have := of_hideAll _ q'; rw [(NC q hq).2.2] at this; cases this
end
/-- what stands behind a walk, under short names -/
theorem hide_post {α : Type} {M : Model} {A : Around} {p : Sem α} {Q : α → Shared → Prop} {E : Value → Shared → Prop} {s : Shared} (h : ∀ (K : α → Shared → Prop) (EE : Value → Shared → Prop), (∀ f s', Q f s' → K f s') → (∀ e s', E e s' → EE e s') → wpAny M A p K EE s) : wpAny M A p Q E s :=
  h Q E (fun _ _ x => x) (fun _ _ x => x)
end Mine
end
theorem Mine.anewM1 : True := by
  w_top off
  exact trivial
section
open PySem PySem.Float64
set_option Elab.async false
set_option linter.unusedVariables false
set_option exponentiation.threshold 3000
namespace Mine

/-- W lies between two neighbours among the floats' magnitudes -/
structure Gap (W q k r : Nat) : Prop where
  eq : W = q * 2 ^ k + r
  lo : 2 ^ 52 ≤ q
  hi : q < 2 ^ 53
  k1 : 1 ≤ k
  k2 : k ≤ 2040
  r0 : 0 < r
  r1 : r < 2 ^ k

theorem infMag_eq : infMag = 2047 * 2 ^ 52 := rfl

theorem gap_find (W : Nat) : ∀ n, W < V n → ∃ t, t < n ∧ V t ≤ W ∧ W < V (t + 1)
  | 0, h => by rw [V_zero] at h; exact absurd h (Nat.not_lt_zero _)
  | n + 1, h => by
    by_cases h2 : W < V n
    · obtain ⟨t, h3, h4⟩ := gap_find W n h2
      exact ⟨t, by (first | lia | omega), h4⟩
    · exact ⟨n, by (first | lia | omega), by (first | lia | omega), h⟩

theorem gap_of {W : Nat} (hb : W < 2 ^ 2090) (hn : ¬ Rep W) : ∃ q k r, Gap W q k r ∧ V (k * 2 ^ 52 + q) = q * 2 ^ k ∧ V (k * 2 ^ 52 + q + 1) = (q + 1) * 2 ^ k := by
  have hV : V (2040 * 2 ^ 52 + 2 ^ 52) = 2 ^ 52 * 2 ^ 2040 := V_at (by (first | lia | omega)) (.inl (by (first | lia | omega)))
  have hlt : W < V (2040 * 2 ^ 52 + 2 ^ 52) := by
    rw [hV, ← Nat.pow_add]
    exact Nat.lt_trans hb (Nat.pow_lt_pow_right (by decide) (by decide))
  obtain ⟨t, ht, h1, h2⟩ := gap_find W _ hlt
  obtain ⟨k, q, rfl, hq, hor, hVt⟩ := V_form t
  have hinf := infMag_eq
  have hne : V (k * 2 ^ 52 + q) ≠ W := fun e => hn ⟨_, by (first | lia | omega), e⟩
  have hs : V (k * 2 ^ 52 + q + 1) = (q + 1) * 2 ^ k := by
    rw [Nat.add_assoc]; exact V_at (by (first | lia | omega)) (by (first | lia | omega))
  rw [hVt] at h1 hne
  rw [hs, Nat.add_mul, Nat.one_mul] at h2
  have hk : 1 ≤ k := by
    rcases Nat.eq_zero_or_pos k with rfl | h
    · simp at h1 h2 hne; (first | lia | omega)
    · exact h
  exact ⟨q, k, W - q * 2 ^ k, ⟨by (clear hk hs hne hinf hVt hor hq h2 ht hlt hV hn hb; omega), by (first | lia | omega), hq, hk, by (first | lia | omega), by (clear hk hs hinf hVt hor hq h2 ht hlt hV hn hb; omega), by (clear hk hs hne hinf hVt hor hq ht hlt hV hn hb; omega)⟩, hVt, hs⟩

theorem Gap.V0 {W q k r : Nat} (g : Gap W q k r) : V (k * 2 ^ 52 + q) = q * 2 ^ k := V_at (by have := g.hi; (first | lia | omega)) (.inl g.lo)
theorem Gap.V1 {W q k r : Nat} (g : Gap W q k r) : V (k * 2 ^ 52 + q + 1) = (q + 1) * 2 ^ k := by
  rw [Nat.add_assoc]; exact V_at (by have := g.hi; (first | lia | omega)) (.inl (by have := g.lo; (first | lia | omega)))
theorem Gap.none {W q k r F : Nat} (g : Gap W q k r) (hF : Rep F) : F ≤ q * 2 ^ k ∨ q * 2 ^ k + 2 ^ k ≤ F := by
  obtain ⟨t, _, rfl⟩ := hF
  rcases Nat.lt_or_ge (k * 2 ^ 52 + q) t with h | h
  · right
    have := V_mono h
    rw [Nat.succ_eq_add_one, g.V1, Nat.add_mul, Nat.one_mul] at this
    exact this
  · left
    rw [← g.V0]
    exact V_mono h
theorem Gap.rep0 {W q k r : Nat} (g : Gap W q k r) : Rep (q * 2 ^ k) := rep_pow k q (by have := g.hi; omega) (by have := g.k2; (first | lia | omega))
theorem Gap.rep1 {W q k r : Nat} (g : Gap W q k r) : Rep (q * 2 ^ k + 2 ^ k) := by
  rw [show q * 2 ^ k + 2 ^ k = (q + 1) * 2 ^ k by rw [Nat.add_mul, Nat.one_mul]]
  exact rep_pow k (q + 1) (by have := g.hi; omega) (by have := g.k2; omega)
theorem Gap.not_rep {W q k r : Nat} (g : Gap W q k r) : ¬ Rep W := fun h => by
  have := g.none h
  have := g.eq; have := g.r0; have := g.r1
  (first | grind | omega)

/-- W rounded to a float's magnitude, a half to the even one -/
def Rn (W Z : Nat) : Prop := (Rep W ∧ Z = W) ∨ ∃ q k r, Gap W q k r ∧
  (((2 * r < 2 ^ k ∨ 2 * r = 2 ^ k ∧ q % 2 = 0) ∧ Z = q * 2 ^ k) ∨ ((2 ^ k < 2 * r ∨ 2 * r = 2 ^ k ∧ q % 2 = 1) ∧ Z = q * 2 ^ k + 2 ^ k))
theorem Rn.rep {W Z : Nat} (h : Rn W Z) : Rep Z := by
  rcases h with ⟨h, rfl⟩ | ⟨q, k, r, g, ⟨_, rfl⟩ | ⟨_, rfl⟩⟩
  · exact h
  · exact g.rep0
  · exact g.rep1

theorem dist_up {W A G : Nat} (hG : 0 < G) (h : dist W A ≤ dist W (A + G)) : 4 * W ≤ 4 * A + 2 * G := by unfold dist at h; omega
theorem dist_dn {W A G : Nat} (hG : 0 < G) (h : dist W (A + G) ≤ dist W A) : 4 * A + 2 * G ≤ 4 * W := by unfold dist at h; omega
theorem dist_tie {W A G : Nat} (h : 4 * W = 4 * A + 2 * G) : dist W A = dist W (A + G) := by
  obtain ⟨r, rfl⟩ : ∃ r, W = A + r := ⟨W - A, by grind⟩
  have hG : G = r + r := by lia
  subst hG
  unfold dist
  rw [Nat.add_sub_cancel_left, Nat.sub_eq_zero_of_le (Nat.le_add_right A r), ← Nat.add_assoc, Nat.sub_eq_zero_of_le (Nat.le_add_right (A + r) r), Nat.add_sub_cancel_left, Nat.add_comm]
theorem dist_ge {W B Z : Nat} (h1 : W ≤ B) (h2 : B ≤ Z) (h : dist W Z ≤ dist W B) : Z = B := by unfold dist at h; grind
theorem dist_le {W B Z : Nat} (h1 : B ≤ W) (h2 : Z ≤ B) (h : dist W Z ≤ dist W B) : Z = B := by unfold dist at h; lia
theorem par_add (k q : Nat) : (k * 2 ^ 52 + q) % 2 = q % 2 := by
  have : k * 2 ^ 52 = 2 * (k * 2 ^ 51) := by rw [show (2 : Nat) ^ 52 = 2 * 2 ^ 51 from rfl]; ac_rfl
  rw [this, Nat.mul_add_mod]
theorem half_le {P r G : Nat} (h : 4 * P + 2 * G ≤ 4 * P + 4 * r) : G ≤ 2 * r := by grind
theorem half_ge {P r G : Nat} (h : 4 * P + 4 * r ≤ 4 * P + 2 * G) : 2 * r ≤ G := by grind
theorem half_eq {P r G : Nat} (h : 2 * r = G) : 4 * P + 4 * r = 4 * P + 2 * G := by lia
theorem odd_of {q : Nat} (h : (q + 1) % 2 = 0) : q % 2 = 1 := by grind
theorem right_rn {x : UInt64} {neg : Bool} {W : Nat} (hb : W < 2 ^ 2090) (h : Right x neg W 1) : ∃ Z, Rn W Z ∧ Fl x (sgn neg Z) := by
  by_cases hW : Rep W
  · exact ⟨W, .inl ⟨hW, rfl⟩, right_exact h (by decide) (by (first | grind | omega)) hW⟩
  obtain ⟨q, k, r, g, hV, hs⟩ := gap_of hb hW
  obtain ⟨t, rfl, hle, hov, hn⟩ := h
  have hlt : t < infMag := by
    rcases Nat.lt_or_eq_of_le hle with h | h
    · exact h
    · exfalso
      have h1 := hov.mp h
      have h2 : (2 : Nat) ^ 2090 * 2 ≤ 1 * ((2 ^ 54 - 1) * 2 ^ 2045) := by
        rw [Nat.one_mul, ← Nat.pow_succ, show Nat.succ 2090 = 46 + 2045 by rfl, Nat.pow_add]
        exact Nat.mul_le_mul_right _ (by decide)
      (clear h2 h hn hov hle hs hV g hW; grind)
  obtain ⟨m, e, hde, _⟩ := decode_pack neg hlt
  have hfl : Fl (pack neg t) (sgn neg (V t)) := ⟨⟨neg, m, e, hde⟩, val_pack neg hlt⟩
  have n0 := hn hlt (k * 2 ^ 52 + q)
  have n1 := hn hlt (k * 2 ^ 52 + q + 1)
  simp only [Nat.one_mul] at n0 n1
  have c1 := g.eq; have c2 := g.r0; have c3 := g.r1
  have hs' : V (k * 2 ^ 52 + q + 1) = q * 2 ^ k + 2 ^ k := by rw [hs, Nat.add_mul, Nat.one_mul]
  refine ⟨V t, .inr ⟨q, k, r, g, ?_⟩, hfl⟩
  have hG := Nat.two_pow_pos k
  have w4 : 4 * W = 4 * (q * 2 ^ k) + 4 * r := by rw [c1, Nat.mul_add]
  have w1 : q * 2 ^ k ≤ W := by rw [c1]; exact Nat.le_add_right _ _
  have w2 : W ≤ q * 2 ^ k + 2 ^ k := by rw [c1]; exact Nat.add_le_add_left (Nat.le_of_lt c3) _
  have lt2 : q * 2 ^ k < q * 2 ^ k + 2 ^ k := Nat.lt_add_of_pos_right hG
  have tie : 2 * r = 2 ^ k → 4 * W = 4 * (q * 2 ^ k) + 2 * 2 ^ k := fun h => w4.trans (half_eq h)
  rcases Nat.lt_or_ge (k * 2 ^ 52 + q) t with h | h
  · right
    have h3 : q * 2 ^ k + 2 ^ k ≤ V t := by rw [← hs']; exact V_mono h
    rw [hs'] at n1
    have hz := dist_ge w2 h3 n1.1
    have ht : t = k * 2 ^ 52 + q + 1 := by
      rcases Nat.lt_or_ge (k * 2 ^ 52 + q + 1) t with h4 | h4
      · have := V_lt h4
        rw [hs', hz] at this
        exact absurd this (Nat.lt_irrefl _)
      · exact Nat.le_antisymm h4 h
    rw [hV, hz] at n0
    have d := dist_dn hG n0.1
    rw [w4] at d
    refine ⟨?_, hz⟩
    rcases Nat.lt_or_eq_of_le (half_le d) with h5 | h5
    · exact .inl h5
    · have := n0.2 (Nat.ne_of_lt lt2) (dist_tie (tie h5.symm)).symm
      rw [ht, Nat.add_assoc, par_add k (q + 1)] at this
      exact .inr ⟨h5.symm, odd_of this⟩
  · left
    have h3 : V t ≤ q * 2 ^ k := by rw [← hV]; exact V_mono h
    rw [hV] at n0
    have hz := dist_le w1 h3 n0.1
    have ht : t = k * 2 ^ 52 + q := by
      rcases Nat.lt_or_ge t (k * 2 ^ 52 + q) with h4 | h4
      · have := V_lt h4
        rw [hV, hz] at this
        exact absurd this (Nat.lt_irrefl _)
      · exact Nat.le_antisymm h h4
    rw [hs', hz] at n1
    have d := dist_up hG n1.1
    rw [w4] at d
    refine ⟨?_, hz⟩
    rcases Nat.lt_or_eq_of_le (half_ge d) with h5 | h5
    · exact .inl h5
    · have := n1.2 (Nat.ne_of_gt lt2) (dist_tie (tie h5))
      rw [ht, par_add k q] at this
      exact .inr ⟨h5, this⟩

/-- the same of whole numbers of any sign -/
def Rd (W Z : Int) : Prop := ∃ z, Rn W.natAbs z ∧ Z = sgn (decide (W < 0)) z
theorem rd_self {W : Int} (h : Rep W.natAbs) : Rd W W := ⟨W.natAbs, .inl ⟨h, rfl⟩, (sgn_natAbs_self W).symm⟩
theorem rep_zero : Rep 0 := ⟨0, by decide, V_zero⟩
theorem Rd.rep {W Z : Int} (h : Rd W Z) : Rep Z.natAbs := by
  obtain ⟨z, h, rfl⟩ := h
  rw [sgn_natAbs]; exact h.rep

theorem fl_add_rd {x y : UInt64} {a b : Int} (hx : Fl x a) (hy : Fl y b) (hb : (a + b).natAbs < 2 ^ 2090) : ∃ z, Fl (add x y) z ∧ Rd (a + b) z := by
  obtain ⟨⟨sx, mx, ex, dx⟩, vx⟩ := hx
  obtain ⟨⟨sy, my, ey, dy⟩, vy⟩ := hy
  have h := add_right dx dy
  rw [vx, vy] at h
  by_cases h0 : a + b = 0
  · rw [h.1 h0, h0]; exact ⟨0, fl_zero _, rd_self rep_zero⟩
  · obtain ⟨Z, h1, h2⟩ := right_rn hb (h.2 h0)
    exact ⟨_, h2, Z, h1, rfl⟩

theorem fl_rep {x : UInt64} {a : Int} (h : Fl x a) : Rep a.natAbs := by
  obtain ⟨⟨s, m, e, d⟩, v⟩ := h
  have hv := val_natAbs d
  rw [v] at hv
  have hge := decode_ge d
  -- the magnitude of a finite float
  have hm : m ≤ 2 ^ 53 ∧ (e + 1074).toNat ≤ 2044 ∨ (m < 2 ^ 53 ∧ (e + 1074).toNat = 2045) := by
    unfold decode at d
    simp only at d
    split at d
    · split at d <;> cases d
    · split at d
      · cases d; left; exact ⟨by (first | grind | omega), by decide⟩
      · cases d
        have h1 : x.toNat / 2 ^ 52 % 2048 < 2048 := Nat.mod_lt _ (by decide)
        rename_i h2 h3
        have h4 : x.toNat / 2 ^ 52 % 2048 ≠ 2047 := by simpa using h2
        (clear h1 hv hge h3 h2 v; grind)
  rw [hv]
  rcases hm with ⟨h1, h2⟩ | ⟨h1, h2⟩
  · exact rep_pow _ _ h1 h2
  · rw [h2]
    by_cases h3 : 2 ^ 52 ≤ m
    · exact ⟨2045 * 2 ^ 52 + m, by rw [infMag_eq]; lia, V_at (by lia) (.inl h3)⟩
    · rw [show m * 2 ^ 2045 = (2 * m) * 2 ^ 2044 by rw [show 2045 = 2044 + 1 by rfl, Nat.pow_succ]; ac_rfl]
      exact rep_pow _ _ (by (first | grind | omega)) (by (first | grind | omega))

/-- the ways of a rounding -/
theorem Rd.cases {W Z : Int} (h : Rd W Z) : (Rep W.natAbs ∧ Z = W) ∨ ∃ (q k r : Nat) (σ : Int), (σ = 1 ∨ σ = -1) ∧ Gap W.natAbs q k r ∧ W = σ * ((q * 2 ^ k : Nat) + (r : Nat)) ∧
    (((2 * r < 2 ^ k ∨ 2 * r = 2 ^ k ∧ q % 2 = 0) ∧ Z = σ * (q * 2 ^ k : Nat)) ∨ ((2 ^ k < 2 * r ∨ 2 * r = 2 ^ k ∧ q % 2 = 1) ∧ Z = σ * ((q * 2 ^ k : Nat) + (2 ^ k : Nat)))) := by
  obtain ⟨z, h, rfl⟩ := h
  rcases h with ⟨h, rfl⟩ | ⟨q, k, r, g, h⟩
  · exact .inl ⟨h, sgn_natAbs_self W⟩
  · right
    have e := g.eq
    by_cases hs : W < 0
    · refine ⟨q, k, r, -1, .inr rfl, g, by omega, ?_⟩
      simp only [hs, decide_true, sgn, if_true]
      rcases h with ⟨h, rfl⟩ | ⟨h, rfl⟩
      · exact .inl ⟨h, by (first | grind | omega)⟩
      · exact .inr ⟨h, by (first | grind | omega)⟩
    · refine ⟨q, k, r, 1, .inl rfl, g, by lia, ?_⟩
      simp only [hs, decide_false, sgn, Bool.false_eq_true, if_false]
      rcases h with ⟨h, rfl⟩ | ⟨h, rfl⟩
      · exact .inl ⟨h, by (first | grind | omega)⟩
      · exact .inr ⟨h, by (first | grind | omega)⟩

theorem pow_dvd_int {a b : Nat} (h : a ≤ b) : ((2 ^ a : Nat) : Int) ∣ ((2 ^ b : Nat) : Int) := Int.natCast_dvd_natCast.mpr (Nat.pow_dvd_pow 2 h)

theorem rep_of_dvd {z : Int} {k : Nat} (hd : ((2 ^ k : Nat) : Int) ∣ z) (hb : z.natAbs ≤ 2 ^ 53 * 2 ^ k) (hk : k ≤ 2044) : Rep z.natAbs := by
  obtain ⟨c, rfl⟩ := hd
  rw [Int.natAbs_mul, Int.natAbs_natCast] at hb ⊢
  rw [Nat.mul_comm] at hb ⊢
  exact rep_pow k _ (Nat.le_of_mul_le_mul_right hb (Nat.two_pow_pos k)) hk

/-- a magnitude's canonical make -/
theorem Rep.form {W : Nat} (h : Rep W) : ∃ q k, W = q * 2 ^ k ∧ q < 2 ^ 53 ∧ (2 ^ 52 ≤ q ∨ k = 0) ∧ k ≤ 2045 := by
  obtain ⟨t, ht, rfl⟩ := h
  obtain ⟨k, q, rfl, hq, hor, hV⟩ := V_form t
  have := infMag_eq
  exact ⟨q, k, hV, hq, hor, by (first | grind | omega)⟩

/-- what is lost in a rounding -/
structure Lost (W Z : Int) (k : Nat) : Prop where
  ne : W ≠ Z
  half : 2 * (W - Z).natAbs ≤ 2 ^ k
  dvd : ((2 ^ k : Nat) : Int) ∣ Z
  lo : 2 ^ 52 * 2 ^ k < W.natAbs
  hi : W.natAbs < 2 ^ 53 * 2 ^ k
  k1 : 1 ≤ k
  k2 : k ≤ 2040
  no : ∀ j, k ≤ j → ¬ ((2 ^ j : Nat) : Int) ∣ W
theorem tri1 (W F : Int) : W.natAbs ≤ (W - F).natAbs + F.natAbs := by
  have := Int.natAbs_add_le (W - F) F
  rwa [Int.sub_add_cancel] at this
theorem tri2 (W F : Int) : F.natAbs ≤ (W - F).natAbs + W.natAbs := by
  have := Int.natAbs_add_le (-(W - F)) W
  rwa [Int.natAbs_neg, Int.neg_sub, Int.sub_add_cancel] at this
theorem near_a {P r K x f : Nat} (h1 : P + r ≤ x + f) (h2 : f ≤ x + (P + r)) (hn : f ≤ P ∨ P + K ≤ f) (h : 2 * r ≤ K) : r ≤ x := by grind
theorem near_b {P r K x f : Nat} (h1 : P + r ≤ x + f) (h2 : f ≤ x + (P + r)) (hn : f ≤ P ∨ P + K ≤ f) (h : K ≤ 2 * r) : K - r ≤ x := by grind
theorem nabs_a {σ P r : Int} (s1 : σ.natAbs = 1) : (σ * (P + r) - σ * P).natAbs = r.natAbs := by
  rw [Int.mul_add, Int.add_comm (σ * P), Int.add_sub_cancel, Int.natAbs_mul, s1, Nat.one_mul]
theorem nabs_b {σ : Int} {P r K : Nat} (s1 : σ.natAbs = 1) (h : r < K) : (σ * ((P : Int) + (r : Int)) - σ * ((P : Int) + (K : Int))).natAbs = K - r := by
  rw [← Int.mul_sub, Int.natAbs_mul, s1, Nat.one_mul]
  grind
theorem half_b {r K : Nat} (h : K ≤ 2 * r) : 2 * (K - r) ≤ K := by grind
theorem Rd.lost {W Z : Int} (h : Rd W Z) : (Rep W.natAbs ∧ Z = W) ∨ ∃ k, Lost W Z k := by
  rcases h.cases with h | ⟨q, k, r, σ, hσ, g, hW, hz⟩
  · exact .inl h
  right
  have e := g.eq; have r0 := g.r0; have r1 := g.r1
  have d0 : ((2 ^ k : Nat) : Int) ∣ ((q * 2 ^ k : Nat) : Int) := Int.natCast_dvd_natCast.mpr (Nat.dvd_mul_left _ _)
  have lo2 : 2 ^ 52 * 2 ^ k ≤ q * 2 ^ k := Nat.mul_le_mul_right _ g.lo
  have hi2 : (q + 1) * 2 ^ k ≤ 2 ^ 53 * 2 ^ k := Nat.mul_le_mul_right _ g.hi
  rw [Nat.add_mul, Nat.one_mul] at hi2
  have s1 : σ.natAbs = 1 := by rcases hσ with rfl | rfl <;> rfl
  have nz : 0 < (W - Z).natAbs ∧ 2 * (W - Z).natAbs ≤ 2 ^ k := by
    rcases hz with ⟨hz, rfl⟩ | ⟨hz, rfl⟩
    · rw [hW, nabs_a s1]
      exact ⟨r0, hz.elim Nat.le_of_lt fun h => Nat.le_of_eq h.1⟩
    · rw [hW, nabs_b s1 r1]
      exact ⟨Nat.sub_pos_of_lt r1, half_b (hz.elim Nat.le_of_lt fun h => Nat.le_of_eq h.1.symm)⟩
  refine ⟨k, fun h => ?_, nz.2, ?_, by rw [e]; exact Nat.lt_of_le_of_lt lo2 (Nat.lt_add_of_pos_right r0), by rw [e]; exact Nat.lt_of_lt_of_le (Nat.add_lt_add_left r1 _) hi2, g.k1, g.k2, ?_⟩
  · rw [h, Int.sub_self] at nz
    exact Nat.lt_irrefl _ nz.1
  · rcases hz with ⟨hz, rfl⟩ | ⟨hz, rfl⟩
    · exact Int.dvd_trans d0 (Int.dvd_mul_left _ _)
    · exact Int.dvd_trans (Int.dvd_add d0 (Int.dvd_refl _)) (Int.dvd_mul_left _ _)
  · intro j hj hd
    have h1 : (2 ^ k) ∣ W.natAbs := Nat.dvd_trans (Nat.pow_dvd_pow 2 hj) (by
      have := Int.natAbs_dvd_natAbs.mpr hd
      rwa [Int.natAbs_natCast] at this)
    rw [e] at h1
    have h2 : 2 ^ k ∣ r := (Nat.dvd_add_right (Nat.dvd_mul_left _ _)).mp h1
    exact absurd (Nat.le_of_dvd r0 h2) (Nat.not_le.mpr r1)

/-- no float is nearer -/
theorem Rd.near {W Z F : Int} (h : Rd W Z) (hF : Rep F.natAbs) : (W - Z).natAbs ≤ (W - F).natAbs := by
  rcases h.cases with ⟨_, rfl⟩ | ⟨q, k, r, σ, hσ, g, hW, hz⟩
  · rw [Int.sub_self]; exact Nat.zero_le _
  have s1 : σ.natAbs = 1 := by rcases hσ with rfl | rfl <;> rfl
  have t1 := tri1 W F
  have t2 := tri2 W F
  rw [g.eq] at t1 t2
  have hn := g.none hF
  rcases hz with ⟨hz, rfl⟩ | ⟨hz, rfl⟩
  · refine Nat.le_trans (Nat.le_of_eq ?_) (near_a t1 t2 hn (hz.elim Nat.le_of_lt fun h => Nat.le_of_eq h.1))
    rw [hW]; exact nabs_a s1
  · refine Nat.le_trans (Nat.le_of_eq ?_) (near_b t1 t2 hn (hz.elim Nat.le_of_lt fun h => Nat.le_of_eq h.1.symm))
    rw [hW]; exact nabs_b s1 g.r1
/-- a float above stays above -/
theorem Rd.le {W Z : Int} {F : Nat} (h : Rd W Z) (hF : Rep F) (hle : W.natAbs ≤ F) : Z.natAbs ≤ F := by
  rcases h.cases with ⟨_, rfl⟩ | ⟨q, k, r, σ, hσ, g, hW, hz⟩
  · exact hle
  have s1 : σ.natAbs = 1 := by rcases hσ with rfl | rfl <;> rfl
  have hn := g.none hF
  rw [g.eq] at hle
  have hF2 : q * 2 ^ k + 2 ^ k ≤ F := hn.elim (fun h => absurd (Nat.le_trans hle h) (Nat.not_le.mpr (Nat.lt_add_of_pos_right g.r0))) id
  rcases hz with ⟨hz, rfl⟩ | ⟨hz, rfl⟩
  · rw [Int.natAbs_mul, s1, Nat.one_mul, Int.natAbs_natCast]
    exact Nat.le_trans (Nat.le_add_right _ _) hF2
  · rw [Int.natAbs_mul, s1, Nat.one_mul, ← Int.natCast_add, Int.natAbs_natCast]
    exact hF2
/-- a common power of two stays -/
theorem Rd.dvd {W Z : Int} {m : Nat} (h : Rd W Z) (hd : ((2 ^ m : Nat) : Int) ∣ W) : ((2 ^ m : Nat) : Int) ∣ Z := by
  rcases h.lost with ⟨_, rfl⟩ | ⟨k, l⟩
  · exact hd
  · have : m ≤ k := by
      rcases Nat.lt_or_ge k m with h | h
      · exact absurd hd (l.no m (Nat.le_of_lt h))
      · exact h
    exact Int.dvd_trans (pow_dvd_int this) l.dvd

theorem ft_a {E X A B : Nat} (h3 : 2 ^ 52 * X ≤ B) (h4 : E * 2 ≤ X) (h5 : A < 2 ^ 53 * E) (hab : B ≤ A) : False := by grind
theorem ft_b {E X A B S : Nat} (hS : S ≤ A + B) (hab : B ≤ A) (l2 : 2 ^ 52 * X < S) (h4 : E * 2 ^ 2 ≤ X) (h5 : A < 2 ^ 53 * E) : False := by grind
/-- two-sum, the greater first: what is lost is got back exactly -/
theorem fast_two {x y : UInt64} {a b : Int} (hx : Fl x a) (hy : Fl y b) (hab : b.natAbs ≤ a.natAbs) (hb : (a + b).natAbs < 2 ^ 2090) :
    ∃ z, Fl (add x y) z ∧ Rd (a + b) z ∧ Fl (sub y (sub (add x y) x)) (a + b - z) ∧ (a + b - z).natAbs ≤ b.natAbs := by
  obtain ⟨z, hz, hr⟩ := fl_add_rd hx hy hb
  have rx := fl_rep hx
  have ry := fl_rep hy
  have near : (a + b - z).natAbs ≤ b.natAbs := by
    have := hr.near rx
    rwa [show a + b - a = b by (clear this ry rx hr hz hb hab hy hx; grind)] at this
  refine ⟨z, hz, hr, ?_, near⟩
  rcases hr.lost with ⟨_, rfl⟩ | ⟨k, l⟩
  · have h1 := fl_sub hz hx (by rw [show a + b - a = b by (first | lia | omega)]; exact ry)
    rw [show a + b - a = b by omega] at h1
    have h2 := fl_sub hy h1 (by rw [Int.sub_self]; exact rep_zero)
    rw [Int.sub_self] at h2 ⊢
    exact h2
  · obtain ⟨n, e, hn, n1, n2, _⟩ := ry.form
    obtain ⟨m, e', hm, m1, m2, _⟩ := rx.form
    have l1 := l.half; have l2 := l.lo; have l3 := l.hi; have l4 := l.k1; have l5 := l.k2
    have ee : e ≤ e' := by
      rcases Nat.lt_or_ge e' e with h | h
      · exfalso
        have h0 : 2 ^ 52 ≤ n := n2.elim id fun z => absurd (z ▸ h) (Nat.not_lt_zero _)
        have h3 : 2 ^ 52 * 2 ^ e ≤ n * 2 ^ e := Nat.mul_le_mul_right _ h0
        have h4 : (2 : Nat) ^ (e' + 1) ≤ 2 ^ e := Nat.pow_le_pow_right (by decide) h
        have h5 : m * 2 ^ e' < 2 ^ 53 * 2 ^ e' := Nat.mul_lt_mul_of_pos_right m1 (Nat.two_pow_pos _)
        rw [Nat.pow_succ] at h4
        rw [← hn] at h3
        rw [← hm] at h5
        exact ft_a h3 h4 h5 hab
      · exact h
    have db : ((2 ^ e : Nat) : Int) ∣ b := Int.dvd_natAbs.mp (by rw [hn]; exact Int.natCast_dvd_natCast.mpr (Nat.dvd_mul_left _ _))
    have da' : ((2 ^ e' : Nat) : Int) ∣ a := Int.dvd_natAbs.mp (by rw [hm]; exact Int.natCast_dvd_natCast.mpr (Nat.dvd_mul_left _ _))
    have da : ((2 ^ e : Nat) : Int) ∣ a := Int.dvd_trans (pow_dvd_int ee) da'
    have hek : e < k := by
      rcases Nat.lt_or_ge e k with h | h
      · exact h
      · exact absurd (Int.dvd_add da db) (l.no e h)
    have hke : k ≤ e' + 1 := by
      rcases Nat.lt_or_ge (e' + 1) k with h | h
      · exfalso
        have h4 : (2 : Nat) ^ (e' + 2) ≤ 2 ^ k := Nat.pow_le_pow_right (by decide) h
        have h5 : m * 2 ^ e' < 2 ^ 53 * 2 ^ e' := Nat.mul_lt_mul_of_pos_right m1 (Nat.two_pow_pos _)
        rw [Nat.pow_add] at h4
        rw [← hm] at h5
        exact ft_b (Int.natAbs_add_le a b) hab l2 h4 h5
      · exact h
    obtain ⟨j, rfl⟩ : ∃ j, k = j + 1 := ⟨k - 1, by (first | lia | omega)⟩
    have dz : ((2 ^ j : Nat) : Int) ∣ z := Int.dvd_trans (pow_dvd_int (Nat.le_succ _)) l.dvd
    have dz2 : ((2 ^ e : Nat) : Int) ∣ z := Int.dvd_trans (pow_dvd_int (Nat.le_of_lt hek)) l.dvd
    have hbn : b.natAbs ≤ (2 ^ 53 - 1) * 2 ^ j := by
      rw [hn]
      exact Nat.mul_le_mul (by (first | lia | omega)) (Nat.pow_le_pow_right (by decide) (by (first | lia | omega)))
    rw [Nat.pow_succ] at l1
    have h1 := fl_sub hz hx (rep_of_dvd (Int.dvd_sub dz (Int.dvd_trans (pow_dvd_int (by (first | lia | omega))) da')) (by (clear dz2 hke hek l5 l4 l3 l2 l da da' db ee m2 m1 hm n2 n1 hn near ry rx hr hz hb hab hy hx; omega)) (by (clear hbn dz2 dz hke hek l4 l3 l2 l1 l da da' db ee m2 m1 hm n2 n1 hn near ry rx hr hz hb hab hy hx; lia)))
    have h2 := fl_sub hy h1 (by
      rw [show b - (z - a) = a + b - z by (clear h1 hbn dz2 dz hke hek l5 l4 l3 l2 l1 l da da' db ee m2 m1 hm n2 n1 hn near ry rx hr hz hb hab hy hx; grind)]
      refine rep_of_dvd (Int.dvd_sub (Int.dvd_add da db) dz2) ?_ (by (clear h1 hbn dz2 dz hke l4 l3 l2 l1 l da da' db ee m2 m1 hm n2 n1 hn near ry rx hr hz hb hab hy hx; lia))
      refine Nat.le_trans near ?_
      rw [hn]
      exact Nat.mul_le_mul_right _ (by (first | lia | omega)))
    rwa [show b - (z - a) = a + b - z by omega] at h2
end Mine
end
theorem Mine.anewM2 : True := by
  w_top off
  exact trivial
section
open PySem PySem.Float64
set_option Elab.async false
set_option linter.unusedVariables false
set_option exponentiation.threshold 3000
namespace Mine

def FlL : List UInt64 → List Int → Prop
  | [], [] => True
  | x :: xs, m :: ms => Fl x m ∧ FlL xs ms
  | _, _ => False
theorem FlL.app : ∀ {xs : List UInt64} {ms : List Int} {ys : List UInt64} {ks : List Int}, FlL xs ms → FlL ys ks → FlL (xs ++ ys) (ms ++ ks)
  | [], [], _, _, _, h => h
  | _ :: _, _ :: _, _, _, h1, h2 => ⟨h1.1, FlL.app h1.2 h2⟩
  | [], _ :: _, _, _, h, _ => h.elim
  | _ :: _, [], _, _, h, _ => h.elim
theorem FlL.rev : ∀ {xs : List UInt64} {ms : List Int}, FlL xs ms → FlL xs.reverse ms.reverse
  | [], [], _ => trivial
  | x :: xs, m :: ms, h => by
    rw [List.reverse_cons, List.reverse_cons]
    exact (FlL.rev h.2).app ⟨h.1, trivial⟩
  | [], _ :: _, h => h.elim
  | _ :: _, [], h => h.elim
theorem FlL.snoc {xs : List UInt64} {ms : List Int} {x : UInt64} {m : Int} (h : FlL xs ms) (hx : Fl x m) : FlL (xs ++ [x]) (ms ++ [m]) := h.app ⟨hx, trivial⟩

theorem sumI_app : ∀ (a b : List Int), sumI (a ++ b) = sumI a + sumI b
  | [], b => by show sumI b = 0 + sumI b; (first | grind | omega)
  | x :: a, b => by
    show x + sumI (a ++ b) = x + sumI a + sumI b
    rw [sumI_app a b]; (first | grind | omega)
theorem sumA_app : ∀ (a b : List Int), sumA (a ++ b) = sumA a + sumA b
  | [], b => by show sumA b = 0 + sumA b; (first | grind | omega)
  | x :: a, b => by
    show x.natAbs + sumA (a ++ b) = x.natAbs + sumA a + sumA b
    rw [sumA_app a b]; (first | grind | omega)
theorem sumI_one (x : Int) : sumI [x] = x := by show x + 0 = x; (first | grind | omega)
theorem sumA_one (x : Int) : sumA [x] = x.natAbs := rfl
theorem sumA_rev : ∀ (a : List Int), sumA a.reverse = sumA a
  | [] => rfl
  | x :: a => by
    rw [List.reverse_cons, sumA_app, sumA_rev a, sumA_one]
    show _ = x.natAbs + sumA a
    (first | grind | omega)
theorem sumI_rev : ∀ (a : List Int), sumI a.reverse = sumI a
  | [] => rfl
  | x :: a => by
    rw [List.reverse_cons, sumI_app, sumI_rev a, sumI_one]
    show _ = x + sumI a
    (first | grind | omega)
theorem sumA_dvd {m : Nat} : ∀ (a : List Int), (∀ x ∈ a, ((2 ^ m : Nat) : Int) ∣ x) → 2 ^ m ∣ sumA a
  | [], _ => Nat.dvd_zero _
  | x :: a, h => by
    refine Nat.dvd_add ?_ (sumA_dvd a fun y hy => h y (List.mem_cons_of_mem _ hy))
    have := Int.natAbs_dvd_natAbs.mpr (h x List.mem_cons_self)
    rwa [Int.natAbs_natCast] at this

/-- part sums that do not overlap, the least first -/
def NO : List Int → Prop
  | [] => True
  | a :: r => (∃ s : Nat, a.natAbs < 2 ^ s ∧ ∀ b ∈ r, ((2 ^ s : Nat) : Int) ∣ b) ∧ NO r

theorem NO.split : ∀ {l r : List Int}, NO (l ++ r) → ∃ s : Nat, sumA l < 2 ^ s ∧ ∀ b ∈ r, ((2 ^ s : Nat) : Int) ∣ b
  | [], r, _ => ⟨0, by decide, fun b _ => by simp⟩
  | a :: l, r, h => by
    obtain ⟨⟨s1, h1, h2⟩, h3⟩ := h
    obtain ⟨s2, h4, h5⟩ := NO.split h3
    have hd : 2 ^ s1 ∣ sumA l := sumA_dvd l fun y hy => h2 y (List.mem_append_left _ hy)
    show ∃ s : Nat, a.natAbs + sumA l < 2 ^ s ∧ _
    rcases Nat.lt_or_ge s2 s1 with h | h
    · have : sumA l = 0 := by
        rcases Nat.eq_zero_or_pos (sumA l) with h0 | h0
        · exact h0
        · have a1 := Nat.le_of_dvd h0 hd
          have a2 : (2 : Nat) ^ s2 ≤ 2 ^ s1 := Nat.pow_le_pow_right (by decide) (Nat.le_of_lt h)
          grind
      exact ⟨s1, by (first | lia | omega), fun b hb => h2 b (List.mem_append_right _ hb)⟩
    · obtain ⟨c, hc⟩ := hd
      have e : (2 : Nat) ^ s2 = 2 ^ s1 * 2 ^ (s2 - s1) := by rw [← Nat.pow_add]; congr 1; grind
      refine ⟨s2, ?_, h5⟩
      rw [hc, e] at h4 ⊢
      have h6 : c + 1 ≤ 2 ^ (s2 - s1) := Nat.lt_of_mul_lt_mul_left h4
      have h7 := Nat.mul_le_mul_left (2 ^ s1) h6
      rw [Nat.mul_add, Nat.mul_one] at h7
      (first | lia | omega)
theorem NO.left : ∀ {l r : List Int}, NO (l ++ r) → NO l
  | [], _, _ => trivial
  | a :: l, r, ⟨⟨s, h1, h2⟩, h3⟩ => ⟨⟨s, h1, fun b hb => h2 b (List.mem_append_left _ hb)⟩, NO.left h3⟩
/-- two at the end put together -/
theorem NO.join : ∀ {l : List Int} {y h : Int}, NO (l ++ [y, h]) → NO (l ++ [h + y])
  | [], _, _, _ => ⟨⟨_, Nat.lt_two_pow_self, fun b hb => nomatch hb⟩, trivial⟩
  | a :: l, y, h, ⟨⟨s, h1, h2⟩, h3⟩ => ⟨⟨s, h1, fun b hb => by
      rcases List.mem_append.mp hb with hb | hb
      · exact h2 b (List.mem_append_left _ hb)
      · rw [List.mem_singleton.mp hb]
        exact Int.dvd_add (h2 _ (List.mem_append_right _ (List.mem_cons_of_mem _ List.mem_cons_self))) (h2 _ (List.mem_append_right _ List.mem_cons_self))⟩, NO.join h3⟩

/-- how many units of 2 ^ 2060 bound it -/
def bs (l : List Int) : Nat := l.foldr (fun m n => (m.natAbs / 2 ^ 2060 + 1) + n) 0
theorem bs_app : ∀ (a b : List Int), bs (a ++ b) = bs a + bs b
  | [], b => by show bs b = 0 + bs b; (first | grind | omega)
  | x :: a, b => by
    show (x.natAbs / 2 ^ 2060 + 1) + bs (a ++ b) = (x.natAbs / 2 ^ 2060 + 1) + bs a + bs b
    rw [bs_app a b]; grind
theorem bs_cons (x : Int) (a : List Int) : bs (x :: a) = (x.natAbs / 2 ^ 2060 + 1) + bs a := rfl

theorem abs_lt {x y : UInt64} {a b : Int} (hx : Fl x a) (hy : Fl y b) : lt (Float64.abs x) (Float64.abs y) = decide (a.natAbs < b.natAbs) := by
  have key : ∀ {x : UInt64} {a : Int}, Fl x a → Fl (Float64.abs x) a.natAbs := by
    intro x a hx
    obtain ⟨⟨s, m, e, d⟩, v⟩ := hx
    have da := decode_abs d
    exact ⟨⟨_, _, _, da⟩, by rw [val_eq da, ← v, val_natAbs d]; rfl⟩
  unfold lt
  rw [fl_cmp (key hx) (key hy)]
  by_cases h : a.natAbs < b.natAbs
  · rw [Int.compare_eq_lt.mpr (by (first | lia | omega))]; simp [h]
  · simp only [h, decide_false, beq_eq_false_iff_ne, ne_eq, Option.some.injEq]
    intro q
    have := Int.compare_eq_lt.mp q
    (first | lia | omega)

/-- one two-sum of the adding -/
theorem two_sum {x y : UInt64} {X Y : Int} {c d : Nat} (hx : Fl x X) (hy : Fl y Y) (hX : X.natAbs ≤ c * 2 ^ 2060) (hY : Y.natAbs ≤ d * 2 ^ 2060) (hcd : c + d ≤ 2 ^ 24) :
    ∃ z, (let p := if lt (Float64.abs x) (Float64.abs y) then (y, x) else (x, y); Fl (add p.1 p.2) z ∧ Fl (sub p.2 (sub (add p.1 p.2) p.1)) (X + Y - z)) ∧ Rd (X + Y) z ∧ (X + Y - z).natAbs ≤ Y.natAbs ∧
      z.natAbs ≤ (c + d) * 2 ^ 2060 ∧ (X + Y - z).natAbs < 2 ^ 2060 ∧ (X + Y - z ≠ 0 → ∃ k : Nat, (X + Y - z).natAbs < 2 ^ k ∧ ((2 ^ k : Nat) : Int) ∣ z) := by
  have hW : (X + Y).natAbs ≤ (c + d) * 2 ^ 2060 := by rw [Nat.add_mul]; omega
  have hB : (X + Y).natAbs ≤ 2 ^ 24 * 2 ^ 2060 := Nat.le_trans hW (Nat.mul_le_mul_right _ hcd)
  have hlt : (X + Y).natAbs < 2 ^ 2090 := by
    rw [← Nat.pow_add] at hB
    exact Nat.lt_of_le_of_lt hB (Nat.pow_lt_pow_right (by decide) (by decide))
  have fin : ∀ z, Rd (X + Y) z → z.natAbs ≤ (c + d) * 2 ^ 2060 ∧ (X + Y - z).natAbs < 2 ^ 2060 ∧ (X + Y - z ≠ 0 → ∃ k : Nat, (X + Y - z).natAbs < 2 ^ k ∧ ((2 ^ k : Nat) : Int) ∣ z) := by
    intro z hr
    refine ⟨hr.le (rep_pow 2044 ((c + d) * 2 ^ 16) (by grind) (by decide) |> fun r => by rwa [Nat.mul_assoc, ← Nat.pow_add] at r) hW, ?_⟩
    rcases hr.lost with ⟨_, rfl⟩ | ⟨k, l⟩
    · rw [Int.sub_self]
      exact ⟨Nat.two_pow_pos _, fun h => absurd rfl h⟩
    · have l1 := l.half; have l2 := l.lo; have kp := Nat.two_pow_pos k
      refine ⟨?_, fun _ => ⟨k, by lia, l.dvd⟩⟩
      have hk : k ≤ 2060 := by
        rcases Nat.lt_or_ge 2060 k with h | h
        · exfalso
          have h4 : (2 : Nat) ^ 2061 ≤ 2 ^ k := Nat.pow_le_pow_right (by decide) h
          have e : (2 : Nat) ^ 2061 = 2 * 2 ^ 2060 := by rw [show 2061 = 2060 + 1 by rfl, Nat.pow_succ, Nat.mul_comm]
          rw [e] at h4
          generalize (2 : Nat) ^ 2060 = K at *
          (clear e hW hY hX h kp l1 l hr hlt hcd hy hx; lia)
        · exact h
      have h5 : (2 : Nat) ^ k ≤ 2 ^ 2060 := Nat.pow_le_pow_right (by decide) hk
      generalize (2 : Nat) ^ 2060 = K at *
      lia
  by_cases h : X.natAbs < Y.natAbs
  · obtain ⟨z, h1, h2, h3, h4⟩ := fast_two hy hx (by lia) (by rw [Int.add_comm]; exact hlt)
    rw [Int.add_comm] at h2 h3 h4
    refine ⟨z, ?_, h2, by lia, fin z h2⟩
    simp only [abs_lt hx hy, h, decide_true, if_true]
    exact ⟨h1, h3⟩
  · obtain ⟨z, h1, h2, h3, h4⟩ := fast_two hx hy (by lia) hlt
    refine ⟨z, ?_, h2, h4, fin z h2⟩
    simp only [abs_lt hx hy, h, decide_false, Bool.false_eq_true, if_false]
    exact ⟨h1, h3⟩
end Mine
end
theorem Mine.anewM3 : True := by
  w_top off
  exact trivial
section
open PySem PySem.Float64
set_option Elab.async false
set_option linter.unusedVariables false
set_option exponentiation.threshold 3000
set_option maxRecDepth 100000
namespace Mine

theorem pow2060 : 0 < (2 : Nat) ^ 2060 := Nat.two_pow_pos _
theorem bs_bound (x : Int) : x.natAbs ≤ (x.natAbs / 2 ^ 2060 + 1) * 2 ^ 2060 := by
  have := Nat.lt_mul_div_succ x.natAbs pow2060
  rw [Nat.mul_comm] at this
  (first | lia | omega)
theorem bs_one {x : Int} (h : x.natAbs < 2 ^ 2060) : x.natAbs / 2 ^ 2060 + 1 = 1 := by rw [Nat.div_eq_of_lt h]
theorem bs_le {x : Int} {c : Nat} (h : x.natAbs ≤ c * 2 ^ 2060) : x.natAbs / 2 ^ 2060 ≤ c := by
  rw [Nat.mul_comm] at h
  exact Nat.div_le_of_le_mul h

/-- what one number more makes of the part sums -/
structure Added (ps : List Int) (X : Int) (c : Nat) (rs : List Int) (z : Int) : Prop where
  sum : sumI rs + z = sumI ps + X
  no : NO (rs ++ [z])
  nz : ∀ r ∈ rs, r ≠ 0
  len : rs.length ≤ ps.length
  bsr : bs rs = rs.length
  top : z.natAbs ≤ (c + bs ps) * 2 ^ 2060
  dvd : ∀ m : Nat, ((2 ^ m : Nat) : Int) ∣ X → (∀ p ∈ ps, ((2 ^ m : Nat) : Int) ∣ p) → (∀ r ∈ rs, ((2 ^ m : Nat) : Int) ∣ r) ∧ ((2 ^ m : Nat) : Int) ∣ z

theorem fsumAdd_spec : ∀ (ps : List UInt64) (Ps : List Int) (x : UInt64) (X : Int) (c : Nat), FlL ps Ps → Fl x X → NO Ps → X.natAbs ≤ c * 2 ^ 2060 → c + bs Ps ≤ 2 ^ 24 →
    ∃ rs z, FlL (fsumAdd ps x).1 rs ∧ Fl (fsumAdd ps x).2 z ∧ Added Ps X c rs z
  | [], [], x, X, c, _, hx, _, hX, _ => ⟨[], X, trivial, hx, { sum := by simp [sumI], no := ⟨⟨X.natAbs, Nat.lt_two_pow_self, fun b hb => nomatch hb⟩, trivial⟩, nz := fun _ h => (nomatch h), len := Nat.le_refl _, bsr := rfl, top := by simpa [bs] using hX, dvd := fun m h _ => ⟨fun _ h => (nomatch h), h⟩ }⟩
  | y :: ps, Y :: Ps, x, X, c, hp, hx, hno, hX, hc => by
    rw [bs_cons] at hc
    obtain ⟨z, hz, hr, near, top, small, sep⟩ := two_sum (c := c) (d := Y.natAbs / 2 ^ 2060 + 1) hx hp.1 hX (bs_bound Y) (by (first | lia | omega))
    obtain ⟨⟨s, hs, hs2⟩, hno2⟩ := hno
    have ih := fsumAdd_spec ps Ps (add (if lt (Float64.abs x) (Float64.abs y) then (y, x) else (x, y)).1 (if lt (Float64.abs x) (Float64.abs y) then (y, x) else (x, y)).2) z (c + (Y.natAbs / 2 ^ 2060 + 1)) hp.2 hz.1 hno2 top (by (first | lia | omega))
    obtain ⟨rs, t, h1, h2, A⟩ := ih
    have e : fsumAdd (y :: ps) x = (if isZero (sub (if lt (Float64.abs x) (Float64.abs y) then (y, x) else (x, y)).2 (sub (add (if lt (Float64.abs x) (Float64.abs y) then (y, x) else (x, y)).1 (if lt (Float64.abs x) (Float64.abs y) then (y, x) else (x, y)).2) (if lt (Float64.abs x) (Float64.abs y) then (y, x) else (x, y)).1)) = true
        then (fsumAdd ps (add (if lt (Float64.abs x) (Float64.abs y) then (y, x) else (x, y)).1 (if lt (Float64.abs x) (Float64.abs y) then (y, x) else (x, y)).2)).1
        else sub (if lt (Float64.abs x) (Float64.abs y) then (y, x) else (x, y)).2 (sub (add (if lt (Float64.abs x) (Float64.abs y) then (y, x) else (x, y)).1 (if lt (Float64.abs x) (Float64.abs y) then (y, x) else (x, y)).2) (if lt (Float64.abs x) (Float64.abs y) then (y, x) else (x, y)).1) :: (fsumAdd ps (add (if lt (Float64.abs x) (Float64.abs y) then (y, x) else (x, y)).1 (if lt (Float64.abs x) (Float64.abs y) then (y, x) else (x, y)).2)).1,
        (fsumAdd ps (add (if lt (Float64.abs x) (Float64.abs y) then (y, x) else (x, y)).1 (if lt (Float64.abs x) (Float64.abs y) then (y, x) else (x, y)).2)).2) := rfl
    rw [e]
    have h3 := hz.2
    rw [fl_isZero h3]
    have hdv : ∀ m : Nat, ((2 ^ m : Nat) : Int) ∣ X → ((2 ^ m : Nat) : Int) ∣ Y → ((2 ^ m : Nat) : Int) ∣ z := fun m a b => hr.dvd (Int.dvd_add a b)
    by_cases h0 : X + Y - z = 0
    · simp only [h0, decide_true, if_true]
      refine ⟨rs, t, h1, h2, ?_, A.no, A.nz, Nat.le_succ_of_le A.len, A.bsr, ?_, fun m a b => ?_⟩
      · have := A.sum
        show _ = Y + sumI Ps + X
        (first | lia | omega)
      · rw [bs_cons, show c + (Y.natAbs / 2 ^ 2060 + 1 + bs Ps) = c + (Y.natAbs / 2 ^ 2060 + 1) + bs Ps by (first | lia | omega)]; exact A.top
      · exact A.dvd m (hdv m a (b _ List.mem_cons_self)) fun p hp => b p (List.mem_cons_of_mem _ hp)
    · simp only [h0, decide_false, Bool.false_eq_true, if_false]
      obtain ⟨k, hk, hk2⟩ := sep h0
      refine ⟨(X + Y - z) :: rs, t, ⟨h3, h1⟩, h2, ?_, ⟨?_, A.no⟩, ?_, Nat.succ_le_succ A.len, ?_, ?_, fun m a b => ?_⟩
      · have := A.sum
        show X + Y - z + sumI rs + t = Y + sumI Ps + X
        (first | lia | omega)
      · refine ⟨min s k, ?_, fun b hb => ?_⟩
        · rcases Nat.le_total s k with h | h
          · rw [Nat.min_eq_left h]; (first | lia | omega)
          · rw [Nat.min_eq_right h]; exact hk
        · have hA := A.dvd (min s k) (Int.dvd_trans (pow_dvd_int (Nat.min_le_right _ _)) hk2) fun p hp => Int.dvd_trans (pow_dvd_int (Nat.min_le_left _ _)) (hs2 p hp)
          rcases List.mem_append.mp hb with hb | hb
          · exact hA.1 b hb
          · rw [List.mem_singleton.mp hb]; exact hA.2
      · intro r hr
        rcases List.mem_cons.mp hr with rfl | hr
        · exact h0
        · exact A.nz r hr
      · rw [bs_cons, bs_one small, A.bsr, List.length_cons]; (first | lia | omega)
      · rw [bs_cons, show c + (Y.natAbs / 2 ^ 2060 + 1 + bs Ps) = c + (Y.natAbs / 2 ^ 2060 + 1) + bs Ps by (first | lia | omega)]; exact A.top
      · have hY := b _ List.mem_cons_self
        have hA := A.dvd m (hdv m a hY) fun p hp => b p (List.mem_cons_of_mem _ hp)
        refine ⟨fun r hr => ?_, hA.2⟩
        rcases List.mem_cons.mp hr with rfl | hr
        · exact Int.dvd_sub (Int.dvd_add a hY) (hdv m a hY)
        · exact hA.1 r hr
  | [], _ :: _, _, _, _, h, _, _, _, _ => h.elim
  | _ :: _, [], _, _, _, h, _, _, _, _ => h.elim

/-- part sums as they stand between two numbers -/
structure Parts (ps : List UInt64) (Ps : List Int) (S : Int) (n b : Nat) : Prop where
  fl : FlL ps Ps
  sum : sumI Ps = S
  no : NO Ps
  nz : ∀ p ∈ Ps, p ≠ 0
  len : Ps.length ≤ n
  bsp : bs Ps ≤ b

theorem parts_step {ps : List UInt64} {Ps : List Int} {S X : Int} {x : UInt64} {n b : Nat} (h : Parts ps Ps S n b) (hx : Fl x X) (hX : X.natAbs ≤ 2 ^ 14 * 2 ^ 2060) (hb : b + 2 ^ 14 ≤ 2 ^ 24) :
    isFinite (fsumAdd ps x).2 = true ∧ ∃ Rs, Parts (fsumStep ps x) Rs (S + X) (n + 1) (n + b + 2 ^ 14 + 1) := by
  obtain ⟨rs, z, h1, h2, A⟩ := fsumAdd_spec ps Ps x X (2 ^ 14) h.fl hx h.no hX (by have := h.bsp; (first | lia | omega))
  refine ⟨fl_fin h2, ?_⟩
  unfold fsumStep
  dsimp only
  rw [fl_isZero h2]
  have hs := A.sum
  have hl := A.len
  have hl2 := h.len
  have hbr := A.bsr
  rw [h.sum] at hs
  by_cases h0 : z = 0
  · simp only [h0, decide_true, if_true]
    rw [h0] at hs
    exact ⟨rs, h1, by (first | lia | omega), A.no.left, A.nz, by (first | lia | omega), by (first | lia | omega)⟩
  · simp only [h0, decide_false, Bool.false_eq_true, if_false]
    refine ⟨rs ++ [z], h1.snoc h2, by rw [sumI_app, sumI_one]; exact hs, A.no, fun p hp => ?_, by rw [List.length_append]; simp; (first | lia | omega), ?_⟩
    · rcases List.mem_append.mp hp with hp | hp
      · exact A.nz p hp
      · rw [List.mem_singleton.mp hp]; exact h0
    · rw [bs_app, hbr]
      have := bs_le A.top
      have := h.bsp
      show _ + (z.natAbs / 2 ^ 2060 + 1 + 0) ≤ _
      (first | lia | omega)

/-- what so many numbers add to the bound -/
def cost : Nat → Nat
  | 0 => 0
  | n + 1 => cost n + 16500
theorem cost_eq : ∀ n, cost n = n * 16500
  | 0 => by rw [Nat.zero_mul]; rfl
  | n + 1 => by rw [Nat.succ_mul, ← cost_eq n]; rfl
theorem ar1 {b l : Nat} (hb : b + (l + 16500) ≤ 2 ^ 24) : b + 2 ^ 14 ≤ 2 ^ 24 := by (first | grind | omega)
theorem ar2 {n b l : Nat} (hn : n ≤ 100) (hb : b + (l + 16500) ≤ 2 ^ 24) : n + b + 2 ^ 14 + 1 + l ≤ 2 ^ 24 := by (first | grind | omega)
theorem ar3 {n l : Nat} (hn : n + (l + 1) ≤ 100) : n + 1 + l ≤ 100 := by (first | lia | omega)
theorem parts_fold : ∀ (xs : List UInt64) (Xs : List Int) (ps : List UInt64) (Ps : List Int) (S : Int) (n b : Nat), FlL xs Xs → (∀ X ∈ Xs, X.natAbs ≤ 2 ^ 14 * 2 ^ 2060) → Parts ps Ps S n b → n + xs.length ≤ 100 → b + cost xs.length ≤ 2 ^ 24 →
    fsumOk ps xs ∧ ∃ Rs b', Parts (xs.foldl fsumStep ps) Rs (S + sumI Xs) (n + xs.length) b' ∧ b' ≤ 2 ^ 24 := by
  intro xs
  induction xs with
  | nil =>
    intro Xs ps Ps S n b hf _ h _ hb
    cases Xs with
    | cons _ _ => exact hf.elim
    | nil =>
      refine ⟨trivial, Ps, b, ?_, Nat.le_trans (Nat.le_add_right _ _) hb⟩
      rw [show S + sumI [] = S from Int.add_zero S]
      exact h
  | cons x xs ih =>
    intro Xs ps Ps S n b hf hX h hn hb
    cases Xs with
    | nil => exact hf.elim
    | cons X Xs =>
      rw [List.length_cons] at hn hb
      have hb2 := ar1 (l := cost xs.length) hb
      obtain ⟨h1, Rs, h2⟩ := parts_step h hf.1 (hX _ List.mem_cons_self) hb2
      have hb3 := ar2 (l := cost xs.length) (Nat.le_trans (Nat.le_add_right n _) hn) hb
      obtain ⟨h3, Rs2, b', h4, h5⟩ := ih Xs _ Rs (S + X) (n + 1) _ hf.2 (fun Y hY => hX Y (List.mem_cons_of_mem _ hY)) h2 (ar3 hn) hb3
      refine ⟨⟨h1, h3⟩, Rs2, b', ?_, h5⟩
      rw [List.length_cons, Nat.add_comm xs.length 1, ← Nat.add_assoc, show S + sumI (X :: Xs) = S + X + sumI Xs from (Int.add_assoc _ _ _).symm]
      exact h4
end Mine
end
theorem Mine.anewM4 : True := by
  w_top off
  exact trivial
section
open PySem PySem.Float64
set_option Elab.async false
set_option linter.unusedVariables false
set_option exponentiation.threshold 3000
set_option maxRecDepth 100000
namespace Mine

/-- the top part sums put together, up to the first that loses something -/
theorem fsumTop_spec : ∀ (ps : List UInt64) (Ps : List Int) (x : UInt64) (X : Int), FlL ps Ps → Fl x X → X ≠ 0 → NO (Ps.reverse ++ [X]) → (∀ p ∈ Ps, p ≠ 0) → X.natAbs + sumA Ps < 2 ^ 2089 →
    ∃ H L rs, Fl (fsumTop x ps).1 H ∧ Fl (fsumTop x ps).2.1 L ∧ FlL (fsumTop x ps).2.2 rs ∧ H + L + sumI rs = X + sumI Ps ∧ (∀ p ∈ rs, p ≠ 0) ∧
      ((L = 0 ∧ rs = []) ∨ (L ≠ 0 ∧ Rd (H + L) H ∧ (H + L).natAbs < 2 ^ 2089 ∧ NO rs.reverse ∧ ∃ s : Nat, ((2 ^ s : Nat) : Int) ∣ H + L ∧ sumA rs < 2 ^ s))
  | [], [], x, X, _, hx, _, _, _, _ => ⟨X, 0, [], hx, fl_zero _, trivial, by simp [sumI], fun _ h => (nomatch h), .inl ⟨rfl, rfl⟩⟩
  | y :: ps, Y :: Ps, x, X, hp, hx, hX, hno, hnz, hb => by
    have hb' : X.natAbs + (Y.natAbs + sumA Ps) < 2 ^ 2089 := hb
    rw [List.reverse_cons, List.append_assoc] at hno
    obtain ⟨s, h1, h2⟩ := NO.split (l := Ps.reverse) hno
    rw [sumA_rev] at h1
    have hno1 : NO (Ps.reverse ++ [Y] ++ [X]) := by rw [List.append_assoc]; exact hno
    obtain ⟨s1, h3, h4⟩ := NO.split hno1
    rw [sumA_app, sumA_one, sumA_rev] at h3
    have hXs : 2 ^ s1 ≤ X.natAbs := by
      have := Int.natAbs_dvd_natAbs.mpr (h4 X List.mem_cons_self)
      rw [Int.natAbs_natCast] at this
      exact Nat.le_of_dvd (by (clear this h4 h3 hno1 h2 h1 hb' hb hnz hno hx hp; grind)) this
    have hdX := h2 X (List.mem_cons_of_mem _ List.mem_cons_self)
    have hdY := h2 Y List.mem_cons_self
    obtain ⟨z, hz, hr, hl, near⟩ := fast_two hx hp.1 (by (clear hdY hdX h4 hno1 h2 h1 hb' hb hnz hno hX hx hp; lia)) (Nat.lt_of_lt_of_le (Nat.lt_of_le_of_lt (Int.natAbs_add_le X Y) (Nat.lt_of_le_of_lt (Nat.add_le_add_left (Nat.le_add_right _ _) _) hb')) (Nat.pow_le_pow_right (by decide) (by decide)))
    have e : fsumTop x (y :: ps) = (if isZero (sub y (sub (add x y) x)) = true then fsumTop (add x y) ps else (add x y, sub y (sub (add x y) x), ps)) := rfl
    rw [e, fl_isZero hl]
    by_cases h0 : X + Y - z = 0
    · simp only [h0, decide_true, if_true]
      have ez : z = X + Y := by (clear e near hl hr hz hdY hdX hXs h4 h3 hno1 h2 h1 hb' hb hnz hno hX hx hp; lia)
      rw [ez] at hz
      obtain ⟨H, L, rs, a1, a2, a3, a4, a5, a6⟩ := fsumTop_spec ps Ps (add x y) (X + Y) hp.2 hz (by (clear ez h0 e near hl hr hz hdY hdX h4 hno1 h2 h1 hb' hb hnz hno hX hx hp; omega)) (NO.join hno) (fun p hp => hnz p (List.mem_cons_of_mem _ hp)) (Nat.lt_of_le_of_lt (Nat.add_le_add_right (Int.natAbs_add_le X Y) _) (by rw [Nat.add_assoc]; exact hb'))
      refine ⟨H, L, rs, a1, a2, a3, ?_, a5, a6⟩
      show _ = X + (Y + sumI Ps)
      (clear a6 a5 a3 a2 a1 ez h0 e near hl hr hz hdY hdX hXs h4 h3 hno1 h2 h1 hb' hb hnz hno hX hx hp; lia)
    · simp only [h0, decide_false, Bool.false_eq_true, if_false]
      have eW : z + (X + Y - z) = X + Y := by (clear h0 e near hl hr hz hdY hdX hXs h4 h3 hno1 h2 h1 hb' hb hnz hno hX hx hp; grind)
      refine ⟨z, X + Y - z, Ps, hz, hl, hp.2, ?_, fun p hp => hnz p (List.mem_cons_of_mem _ hp), .inr ⟨h0, by rw [eW]; exact hr, by rw [eW]; exact Nat.lt_of_le_of_lt (Int.natAbs_add_le X Y) (Nat.lt_of_le_of_lt (Nat.add_le_add_left (Nat.le_add_right _ _) _) hb'), hno.left, s, by rw [eW]; exact Int.dvd_add hdX hdY, h1⟩⟩
      show _ = X + (Y + sumI Ps)
      (clear h0 e near hl hr hz hdY hdX hXs h4 h3 hno1 h2 h1 hb' hb hnz hno hX hx hp; grind)
  | [], _ :: _, _, _, h, _, _, _, _, _ => h.elim
  | _ :: _, [], _, _, h, _, _, _, _, _ => h.elim

theorem rep_double {W : Nat} (h : Rep W) (hb : W < 2 ^ 2090) : Rep (2 * W) := by
  obtain ⟨q, k, rfl, hq, hor, hk⟩ := h.form
  by_cases hk2 : k = 2045
  · exfalso
    have h1 : 2 ^ 52 ≤ q := by (clear hk hq hb h; lia)
    have h2 : (2 : Nat) ^ 52 * 2 ^ k ≤ q * 2 ^ k := Nat.mul_le_mul_right _ h1
    rw [hk2, ← Nat.pow_add] at h2
    have h3 : (2 : Nat) ^ 2090 ≤ 2 ^ (52 + 2045) := Nat.pow_le_pow_right (by decide) (by decide)
    rw [hk2] at hb
    (first | lia | omega)
  · rw [show 2 * (q * 2 ^ k) = q * 2 ^ (k + 1) by rw [Nat.pow_succ]; ac_rfl]
    by_cases h4 : k + 1 = 2045
    · have hk3 : k = 2044 := by (first | lia | omega)
      subst hk3
      clear hb
      have h1 : 2 ^ 52 ≤ q := by (first | lia | omega)
      exact ⟨2045 * 2 ^ 52 + q, by rw [infMag_eq]; (first | lia | omega), V_at (by (first | lia | omega)) (.inl h1)⟩
    · exact rep_pow (k + 1) q (by (first | lia | omega)) (by (first | lia | omega))

theorem rep_two (n : Nat) (h : n ≤ 2 ^ 53) : Rep (n * 2 ^ 1074) := rep_pow 1074 n h (by (first | grind | omega))
theorem fl_int {n : Int} (h : n.natAbs ≤ 2 ^ 53) : Fl (ofInt n) (n * 2 ^ 1074) := fl_ofInt n (rep_two _ h)
theorem fl_two : Fl (ofInt 2) (2 * 2 ^ 1074) := fl_int (n := 2) (by show 2 ≤ 2 ^ 53; (first | grind | omega))
theorem fl_double {x : UInt64} {a : Int} (hx : Fl x a) (hb : a.natAbs < 2 ^ 2090) : Fl (mul x (ofInt 2)) (2 * a) := by
  have h2 := fl_two
  refine fl_mul hx h2 ?_ ?_
  · rw [← Int.mul_assoc, Int.mul_comm, Int.mul_comm a 2]
  · rw [Int.natAbs_mul]
    exact rep_double (fl_rep hx) hb

/-- what lies below cannot reach the middle between two floats -/
theorem push {W R : Int} {q k r s : Nat} {σ : Int} (hσ : σ = 1 ∨ σ = -1) (g : Gap W.natAbs q k r) (hW : W = σ * ((q * 2 ^ k : Nat) + (r : Nat))) (hd : ((2 ^ s : Nat) : Int) ∣ W) (hR : R.natAbs < 2 ^ s) :
    s < k ∧ 2 ^ s ≤ r ∧ r + 2 ^ s ≤ 2 ^ k ∧ (2 * r < 2 ^ k → 2 * r + 2 * 2 ^ s ≤ 2 ^ k) ∧ (2 ^ k < 2 * r → 2 ^ k + 2 * 2 ^ s ≤ 2 * r) := by
  have e := g.eq
  have hd2 : 2 ^ s ∣ W.natAbs := by
    have := Int.natAbs_dvd_natAbs.mpr hd
    rwa [Int.natAbs_natCast] at this
  have hsk : s < k := by
    rcases Nat.lt_or_ge s k with h | h
    · exact h
    · exfalso
      have h1 : (2 ^ k) ∣ W.natAbs := Nat.dvd_trans (Nat.pow_dvd_pow 2 h) hd2
      rw [e] at h1
      have h2 : 2 ^ k ∣ r := (Nat.dvd_add_right (Nat.dvd_mul_left _ _)).mp h1
      have := Nat.le_of_dvd g.r0 h2
      have := g.r1
      (clear h2 h1 h hd2 e hR hd hW g hσ; lia)
  have hr : 2 ^ s ∣ r := by
    rw [e] at hd2
    exact (Nat.dvd_add_right (Nat.dvd_trans (Nat.pow_dvd_pow 2 (Nat.le_of_lt hsk)) (Nat.dvd_mul_left _ _))).mp hd2
  obtain ⟨c, rfl⟩ := hr
  have ek : (2 : Nat) ^ k = 2 ^ s * (2 * 2 ^ (k - s - 1)) := by
    rw [← Nat.pow_succ', ← Nat.pow_add]; congr 1; (first | grind | omega)
  have r0 := g.r0; have r1 := g.r1
  rw [ek] at r1 ⊢
  generalize 2 ^ (k - s - 1) = d at *
  have sp := Nat.two_pow_pos s
  generalize (2 : Nat) ^ s = S at *
  have c0 : 0 < c := Nat.pos_of_mul_pos_left r0
  have c1 : c < 2 * d := Nat.lt_of_mul_lt_mul_left r1
  refine ⟨hsk, ?_, ?_, ?_, ?_⟩
  · exact Nat.le_mul_of_pos_right S c0
  · have := Nat.mul_le_mul_left S (Nat.succ_le_of_lt c1)
    rw [Nat.succ_eq_add_one, Nat.mul_add, Nat.mul_one] at this
    exact this
  · intro h
    rw [Nat.mul_left_comm] at h
    have h2 : 2 * c < 2 * d := Nat.lt_of_mul_lt_mul_left h
    have := Nat.mul_le_mul_left S (show 2 * c + 2 ≤ 2 * d by (first | grind | omega))
    rw [Nat.mul_add, Nat.mul_left_comm, Nat.mul_comm S 2] at this
    exact this
  · intro h
    rw [Nat.mul_left_comm 2 S c] at h ⊢
    have h2 : 2 * d < 2 * c := Nat.lt_of_mul_lt_mul_left h
    have := Nat.mul_le_mul_left S (show 2 * d + 2 ≤ 2 * c by (first | grind | omega))
    rw [Nat.mul_add, Nat.mul_comm S 2] at this
    exact this

/-- the gap that holds the whole sum too -/
theorem Gap.shift {W T : Nat} {q k r r' : Nat} (g : Gap W q k r) (h : T = q * 2 ^ k + r') (h0 : 0 < r') (h1 : r' < 2 ^ k) : Gap T q k r' := ⟨h, g.lo, g.hi, g.k1, g.k2, h0, h1⟩
theorem rd_of {T Z : Int} {q k r : Nat} {σ : Int} (hσ : σ = 1 ∨ σ = -1) (g : Gap T.natAbs q k r) (hT : T = σ * ((q * 2 ^ k : Nat) + (r : Nat)))
    (h : ((2 * r < 2 ^ k ∨ 2 * r = 2 ^ k ∧ q % 2 = 0) ∧ Z = σ * (q * 2 ^ k : Nat)) ∨ ((2 ^ k < 2 * r ∨ 2 * r = 2 ^ k ∧ q % 2 = 1) ∧ Z = σ * ((q * 2 ^ k : Nat) + (2 ^ k : Nat)))) : Rd T Z := by
  have r0 := g.r0
  have hs : T < 0 ↔ σ = -1 := by
    generalize q * 2 ^ k = P at *
    rcases hσ with rfl | rfl <;> (first | lia | omega)
  rcases h with ⟨h, hz⟩ | ⟨h, hz⟩
  · refine ⟨q * 2 ^ k, .inr ⟨q, k, r, g, .inl ⟨h, rfl⟩⟩, ?_⟩
    rcases hσ with rfl | rfl
    · rw [show decide (T < 0) = false from by simp [hs]]; unfold sgn; rw [if_neg (by simp)]; (first | lia | omega)
    · rw [show decide (T < 0) = true from by simp [hs]]; unfold sgn; rw [if_pos rfl]; (first | lia | omega)
  · refine ⟨q * 2 ^ k + 2 ^ k, .inr ⟨q, k, r, g, .inr ⟨h, rfl⟩⟩, ?_⟩
    generalize q * 2 ^ k = P at *
    rcases hσ with rfl | rfl
    · rw [show decide (T < 0) = false from by simp [hs]]; unfold sgn; rw [if_neg (by simp)]; (first | lia | omega)
    · rw [show decide (T < 0) = true from by simp [hs]]; unfold sgn; rw [if_pos rfl]; (first | lia | omega)
end Mine
end
theorem Mine.anewM5 : True := by
  w_top off
  exact trivial
section
open PySem PySem.Float64
set_option Elab.async false
set_option linter.unusedVariables false
set_option exponentiation.threshold 3000
set_option maxRecDepth 100000
namespace Mine

theorem fl_lt0 {x : UInt64} {a : Int} (h : Fl x a) : lt x (zero false) = decide (a < 0) := by
  unfold lt
  rw [fl_cmp h (fl_zero false)]
  by_cases h0 : a < 0
  · rw [Int.compare_eq_lt.mpr h0]; simp [h0]
  · simp only [h0, decide_false, beq_eq_false_iff_ne, ne_eq, Option.some.injEq]
    exact fun q => h0 (Int.compare_eq_lt.mp q)
theorem fl_gt0 {x : UInt64} {a : Int} (h : Fl x a) : gt x (zero false) = decide (0 < a) := by
  unfold gt
  rw [fl_cmp h (fl_zero false)]
  by_cases h0 : 0 < a
  · rw [Int.compare_eq_gt.mpr h0]; simp [h0]
  · simp only [h0, decide_false, beq_eq_false_iff_ne, ne_eq, Option.some.injEq]
    exact fun q => h0 (Int.compare_eq_gt.mp q)
theorem fl_cmpeq {x y : UInt64} {a b : Int} (hx : Fl x a) (hy : Fl y b) : (cmp x y == some .eq) = decide (a = b) := by
  rw [fl_cmp hx hy]
  by_cases h0 : a = b
  · subst h0; simp
  · simp only [h0, decide_false, beq_eq_false_iff_ne, ne_eq, Option.some.injEq]
    exact fun q => h0 (Int.compare_eq_eq.mp q)

theorem core_arith {P K r S R H L N x : Int} {e : Prop} (r0 : 0 < r) (r1 : r < K) (hR : R < S ∧ -S < R) (p2 : S ≤ r) (p3 : r + S ≤ K) (p4 : 2 * r < K → 2 * r + 2 * S ≤ K) (p5 : K < 2 * r → K + 2 * S ≤ 2 * r)
    (hW : H + L = P + r) (hN : N ≠ 0) (hs : (0 < N → 0 < R) ∧ (N < 0 → R < 0)) (hz : ((2 * r < K ∨ 2 * r = K ∧ e) ∧ H = P) ∨ ((K < 2 * r ∨ 2 * r = K ∧ ¬ e) ∧ H = P + K)) (xin : x = P ∨ x = P + K) (ex : 2 * r = K → x = H + 2 * L) :
    (((L < 0 ∧ N < 0) ∨ (0 < L ∧ 0 < N)) ∧ 2 * L = x - H → (((2 * (r + R) < K) ∧ x = P) ∨ ((K < 2 * (r + R)) ∧ x = P + K))) ∧
    (¬ (((L < 0 ∧ N < 0) ∨ (0 < L ∧ 0 < N)) ∧ 2 * L = x - H) → (((2 * (r + R) < K) ∧ H = P) ∨ ((K < 2 * (r + R)) ∧ H = P + K))) := by
  rcases hz with ⟨hz1, hz⟩ | ⟨hz1, hz⟩
  · have hl : L = r := by (first | lia | omega)
    subst hl
    rcases hz1 with h | ⟨h, _⟩
    · have := p4 h
      exact ⟨fun ⟨_, a⟩ => by (clear a ex hW p5 p4 p3 p2 r1 hs hN; grind), fun _ => .inl ⟨by (clear h ex hW p5 p4 p3 hz xin hs hN; grind), hz⟩⟩
    · have := ex h
      refine ⟨fun ⟨a, b⟩ => .inr ⟨by (clear b a this ex hW p5 p4 p3 p2 r1 hz xin hN hR; lia), by (clear b a ex hW p5 p4 p3 p2 r1 r0 xin hs hN hR; grind)⟩, fun a => .inl ⟨?_, hz⟩⟩
      have : ¬ 0 < N := fun q => a ⟨.inr ⟨r0, q⟩, by (clear q a h ex hW p5 p4 p3 p2 r1 hz xin hs hN hR; grind)⟩
      have := hs.2 (by (first | lia | omega))
      (first | lia | omega)
  · have hl : L = r - K := by grind
    rcases hz1 with h | ⟨h, _⟩
    · have := p5 h
      exact ⟨fun ⟨_, a⟩ => by (clear a hl ex hs hN p5 p4 p3 p2 r0; grind), fun _ => .inr ⟨by (clear h hl hz ex xin hs hN hW p5 p4 p3 p2; grind), hz⟩⟩
    · have := ex h
      refine ⟨fun ⟨a, b⟩ => .inl ⟨by (first | lia | omega), by (clear b a hl ex xin hs hN p5 p4 p3 p2 hR r1; grind)⟩, fun a => .inr ⟨?_, hz⟩⟩
      have : ¬ N < 0 := fun q => a ⟨.inl ⟨by (clear q a this h hl ex xin hs hN p5 p4 p3 p2 hR r0; grind), q⟩, by (clear q a h hl hz ex xin hs hN hW p5 p4 p3 p2 hR r1 r0; lia)⟩
      have := hs.1 (by (first | lia | omega))
      (first | lia | omega)
theorem gap_arith {P K r : Nat} {W : Int} {σ R : Int} (hσ : σ = 1 ∨ σ = -1) (hW : W = σ * ((P : Int) + (r : Int))) {S : Nat} (hR : R.natAbs < S) (p2 : S ≤ r) (p3 : r + S ≤ K) :
    (W + R).natAbs = P + ((r : Int) + σ * R).toNat ∧ 0 < ((r : Int) + σ * R).toNat ∧ ((r : Int) + σ * R).toNat < K ∧ W + R = σ * ((P : Int) + (((r : Int) + σ * R).toNat : Nat)) ∧ ((((r : Int) + σ * R).toNat : Nat) : Int) = r + σ * R := by
  rcases hσ with rfl | rfl <;> (first | lia | omega)
theorem bound_nat {P K r B l m : Nat} (hb : P + r < B) (hl : l = r ∨ l = K - r) (r1 : r < K) (hK : K ≤ P) (hm : m ≤ P + r + l) : l < 2 * B ∧ m < 2 * B := by lia
theorem bound_arith {P K r B : Nat} {H L σ : Int} (hσ : σ = 1 ∨ σ = -1) (ge : (H + L).natAbs = P + r) (hW : H + L = σ * ((P : Int) + (r : Int))) (r1 : r < K) (hK : K ≤ P) (hb : (H + L).natAbs < B) (hz : H = σ * (P : Int) ∨ H = σ * ((P : Int) + (K : Int))) : L.natAbs < 2 * B ∧ (H + 2 * L).natAbs < 2 * B := by
  have s1 : σ.natAbs = 1 := by rcases hσ with rfl | rfl <;> rfl
  have eL : L = H + L - H := by rw [Int.add_comm, Int.add_sub_cancel]
  have hl : L.natAbs = r ∨ L.natAbs = K - r := by
    rw [eL, hW]
    rcases hz with rfl | rfl
    · exact .inl (nabs_a s1)
    · exact .inr (nabs_b s1 r1)
  have hm := Int.natAbs_add_le (H + L) L
  rw [show H + L + L = H + 2 * L by rw [Int.add_assoc, Int.two_mul], ge] at hm
  rw [ge] at hb
  exact bound_nat hb hl r1 hK hm
theorem near1 {P K : Nat} {t x : Int} (h1 : 0 ≤ t) (h2 : t ≤ K) (n0 : ((P : Int) + t - x).natAbs ≤ t.natAbs) (n1 : ((P : Int) + t - x).natAbs ≤ (t - K).natAbs) (nn : x.natAbs ≤ P ∨ P + K ≤ x.natAbs) (hK : 0 < K) : x = P ∨ x = (P : Int) + K := by
  have a : (P : Int) ≤ x := by clear n1 nn h2; grind
  have b : x ≤ (P : Int) + K := by clear n0 nn; (clear a hK h1; grind)
  clear n0 n1 h1 h2
  lia
theorem near_arith {P K : Nat} {W x σ : Int} (hσ : σ = 1 ∨ σ = -1) (hW : ∃ t : Int, 0 ≤ t ∧ t ≤ K ∧ W = σ * ((P : Int) + t)) (n0 : (W - x).natAbs ≤ (W - σ * (P : Int)).natAbs) (n1 : (W - x).natAbs ≤ (W - σ * ((P : Int) + (K : Int))).natAbs) (nn : x.natAbs ≤ P ∨ P + K ≤ x.natAbs) (hK : 0 < K) (hP : K ≤ P) :
    x = σ * (P : Int) ∨ x = σ * ((P : Int) + (K : Int)) := by
  obtain ⟨t, h1, h2, rfl⟩ := hW
  have s1 : σ.natAbs = 1 := by rcases hσ with rfl | rfl <;> rfl
  have ss : ∀ y : Int, σ * (σ * y) = y := fun y => by rcases hσ with rfl | rfl <;> simp
  have e : (σ * ((P : Int) + t) - x).natAbs = ((P : Int) + t - σ * x).natAbs := by
    have : σ * ((P : Int) + t) - x = σ * ((P : Int) + t - σ * x) := by rw [Int.mul_sub, ss]
    rw [this, Int.natAbs_mul, s1, Nat.one_mul]
  have ax : (σ * x).natAbs = x.natAbs := by rw [Int.natAbs_mul, s1, Nat.one_mul]
  rw [e, nabs_a s1] at n0
  rw [e, ← Int.mul_sub, Int.natAbs_mul, s1, Nat.one_mul, show (P : Int) + t - ((P : Int) + K) = t - K by clear n0 nn ss; grind] at n1
  rw [← ax] at nn
  rcases near1 h1 h2 n0 n1 nn hK with h | h
  · exact .inl (by rw [← h, ss])
  · exact .inr (by rw [← h, ss])
theorem dbl_arith0 {H L σ : Int} {P K r : Nat} (hW : H + L = σ * ((P : Int) + (r : Int))) (hz : H = σ * (P : Int)) (he : 2 * r = K) : H + 2 * L = σ * ((P : Int) + (K : Int)) := by
  subst he
  rw [Int.mul_add] at hW ⊢
  rw [Int.natCast_mul, Int.mul_left_comm]
  show H + 2 * L = σ * (P : Int) + 2 * (σ * (r : Int))
  (first | grind | omega)
theorem dbl_arith1 {H L σ : Int} {P K r : Nat} (hW : H + L = σ * ((P : Int) + (r : Int))) (hz : H = σ * ((P : Int) + (K : Int))) (he : 2 * r = K) : H + 2 * L = σ * (P : Int) := by
  subst he
  rw [Int.mul_add] at hW hz
  rw [Int.natCast_mul, Int.mul_left_comm] at hz
  have hz' : H = σ * (P : Int) + 2 * (σ * (r : Int)) := hz
  (first | grind | omega)
theorem dbl_in' {H L σ : Int} {P K r : Nat} {a b : Prop} (hW : H + L = σ * ((P : Int) + (r : Int))) (r1 : r < K) (hz : ((2 * r < K ∨ 2 * r = K ∧ a) ∧ H = σ * (P : Int)) ∨ ((K < 2 * r ∨ 2 * r = K ∧ b) ∧ H = σ * ((P : Int) + (K : Int)))) : ∃ t : Int, 0 ≤ t ∧ t ≤ K ∧ H + 2 * L = σ * ((P : Int) + t) := by
  rcases hz with ⟨h, e⟩ | ⟨h, e⟩
  · refine ⟨2 * r, by (first | lia | omega), by (first | lia | omega), ?_⟩
    rw [Int.mul_add, Int.mul_left_comm]
    rw [Int.mul_add] at hW
    (clear h r1; omega)
  · refine ⟨2 * r - K, by (first | lia | omega), by (first | lia | omega), ?_⟩
    rw [Int.mul_add, Int.mul_sub, Int.mul_left_comm]
    rw [Int.mul_add] at hW e
    (first | lia | omega)
theorem dif_arith {H x σ : Int} {P K : Nat} (hσ : σ = 1 ∨ σ = -1) (hx : x = σ * (P : Int) ∨ x = σ * ((P : Int) + (K : Int))) (hz : H = σ * (P : Int) ∨ H = σ * ((P : Int) + (K : Int))) : (x - H).natAbs = 0 ∨ (x - H).natAbs = K := by
  have s1 : σ.natAbs = 1 := by rcases hσ with rfl | rfl <;> rfl
  rcases hx with rfl | rfl <;> rcases hz with rfl | rfl
  · exact .inl (by rw [Int.sub_self]; rfl)
  · refine .inr ?_
    rw [← Int.natAbs_neg, Int.neg_sub, nabs_a s1, Int.natAbs_natCast]
  · refine .inr ?_
    rw [nabs_a s1, Int.natAbs_natCast]
  · exact .inl (by rw [Int.sub_self]; rfl)
theorem core_sgn {P K r S : Nat} {σ R H L N x : Int} {e : Prop} (hσ : σ = 1 ∨ σ = -1) (r0 : 0 < r) (r1 : r < K) (hR : R.natAbs < S) (p2 : S ≤ r) (p3 : r + S ≤ K) (p4 : 2 * r < K → 2 * r + 2 * S ≤ K) (p5 : K < 2 * r → K + 2 * S ≤ 2 * r)
    (hW : H + L = σ * ((P : Int) + (r : Int))) (hN : N ≠ 0) (hs : (0 < N → 0 < R) ∧ (N < 0 → R < 0)) (hz : ((2 * r < K ∨ 2 * r = K ∧ e) ∧ H = σ * (P : Int)) ∨ ((K < 2 * r ∨ 2 * r = K ∧ ¬ e) ∧ H = σ * ((P : Int) + (K : Int)))) (xin : x = σ * (P : Int) ∨ x = σ * ((P : Int) + (K : Int))) (ex : 2 * r = K → x = H + 2 * L) :
    (((L < 0 ∧ N < 0) ∨ (0 < L ∧ 0 < N)) ∧ 2 * L = x - H → (((2 * ((r : Int) + σ * R) < K) ∧ x = σ * (P : Int)) ∨ (((K : Int) < 2 * ((r : Int) + σ * R)) ∧ x = σ * ((P : Int) + (K : Int))))) ∧
    (¬ (((L < 0 ∧ N < 0) ∨ (0 < L ∧ 0 < N)) ∧ 2 * L = x - H) → (((2 * ((r : Int) + σ * R) < K) ∧ H = σ * (P : Int)) ∨ (((K : Int) < 2 * ((r : Int) + σ * R)) ∧ H = σ * ((P : Int) + (K : Int))))) := by
  rcases hσ with rfl | rfl
  · simp only [Int.one_mul] at *
    exact core_arith (S := S) (e := e) (by (first | grind | omega)) (by lia) (by (clear xin hz hW ex hs hN p5 p4 p3 p2 r1; omega)) (by (clear xin hz hW ex hs hN p5 p4 p3 hR r1 r0; lia)) (by (clear xin hz hW ex hs hN p5 p4 p2 hR r1; lia)) (fun h => by have := p4 (by lia); (clear h xin hz hW ex hs hN p5 p4 p3 p2 hR r1; lia)) (fun h => by have := p5 (by lia); (clear h xin hz hW ex hs hN p5 p4 p3 p2 hR r1 r0; lia)) hW hN hs (hz.imp (fun h => ⟨h.1.imp (fun a => by lia) fun a => ⟨by (first | grind | omega), a.2⟩, h.2⟩) fun h => ⟨h.1.imp (fun a => by lia) fun a => ⟨by (first | grind | omega), a.2⟩, h.2⟩) xin (fun h => ex (by (first | grind | omega)))
  · simp only [Int.neg_mul, Int.one_mul] at *
    have c := core_arith (P := P) (K := K) (r := r) (S := S) (R := -R) (H := -H) (L := -L) (N := -N) (x := -x) (e := e) (by (first | grind | omega)) (by lia) (by (clear xin hz hW ex hs hN p5 p4 p3 p2 r1; omega)) (by (clear xin hz hW ex hs hN p5 p4 p3 hR r1 r0; lia)) (by (clear xin hz hW ex hs hN p5 p4 p2 hR r1; lia)) (fun h => by have := p4 (by lia); (clear h xin hz hW ex hs hN p5 p4 p3 p2 hR r1; lia)) (fun h => by have := p5 (by lia); (clear h xin hz hW ex hs hN p5 p4 p3 p2 hR r1 r0; lia)) (by (first | grind | omega)) (by (first | grind | omega)) ⟨fun h => by have := hs.2 (by (clear xin hz hW ex hs hN p5 p4 p3 p2 hR r1 r0; lia)); (clear h xin hz hW ex hs hN p5 p4 p3 p2 hR r1 r0; lia), fun h => by have := hs.1 (by (clear xin hz hW ex hs hN p5 p4 p3 p2 hR r1 r0; lia)); (clear h xin hz hW ex hs hN p5 p4 p3 p2 hR r1 r0; lia)⟩
      (hz.imp (fun h => ⟨h.1.imp (fun a => by lia) fun a => ⟨by (first | grind | omega), a.2⟩, by (first | grind | omega)⟩) fun h => ⟨h.1.imp (fun a => by lia) fun a => ⟨by (first | grind | omega), a.2⟩, by (first | grind | omega)⟩) (xin.imp (fun h => by (first | grind | omega)) fun h => by (first | grind | omega)) (fun h => by have := ex (by (first | grind | omega)); (first | grind | omega))
    have sw : ((-L < 0 ∧ -N < 0 ∨ 0 < -L ∧ 0 < -N) ∧ 2 * -L = -x - -H) ↔ ((L < 0 ∧ N < 0 ∨ 0 < L ∧ 0 < N) ∧ 2 * L = x - H) := by (clear c xin hz hW ex hs hN p5 p4 p3 p2 hR r1 r0; lia)
    rw [sw] at c
    refine ⟨fun h => (c.1 h).imp (fun a => ⟨a.1, by (clear sw c xin hz ex hs hN p5 p4 p3 p2 hR r1 r0; grind)⟩) fun a => ⟨a.1, by (clear sw c xin hz ex hs hN p5 p4 p3 p2 hR r0; grind)⟩, fun h => (c.2 h).imp (fun a => ⟨a.1, by (clear h sw c xin hz hW ex hs hN p5 p4 p3 p2 hR r1 r0; lia)⟩) fun a => ⟨a.1, by (clear h sw c xin hz hW ex hs hN p5 p4 p3 p2 hR r0; lia)⟩⟩
/-- the end: a half that the part sums below push over -/
theorem end_core {hi lo nx : UInt64} {H L N R : Int} {s : Nat} (h1 : Fl hi H) (h2 : Fl lo L) (h3 : Fl nx N) (hL : L ≠ 0) (hr : Rd (H + L) H) (hb : (H + L).natAbs < 2 ^ 2089) (hd : ((2 ^ s : Nat) : Int) ∣ H + L) (hR : R.natAbs < 2 ^ s) (hN : N ≠ 0) (hs : (0 < N → 0 < R) ∧ (N < 0 → R < 0)) :
    ∃ Z, Fl (if ((lt lo (zero false) && lt nx (zero false)) || (gt lo (zero false) && gt nx (zero false))) = true then (if (cmp (mul lo (ofInt 2)) (sub (add hi (mul lo (ofInt 2))) hi) == some .eq) = true then add hi (mul lo (ofInt 2)) else hi) else hi) Z ∧ Rd (H + L + R) Z := by
  rcases hr.cases with ⟨_, e⟩ | ⟨q, k, r, σ, hσ, g, hW, hz⟩
  · exact absurd (show L = 0 by (first | lia | omega)) hL
  obtain ⟨p1, p2, p3, p4, p5⟩ := push hσ g hW hd hR
  have r0 := g.r0
  have r1 := g.r1
  have ge := g.eq
  have rep0 := g.rep0
  have rep1 := g.rep1
  have hKP : 2 ^ k ≤ q * 2 ^ k := Nat.le_mul_of_pos_left _ (Nat.lt_of_lt_of_le (by decide) g.lo)
  have repK : Rep (2 ^ k) := by have := rep_pow k 1 (by decide) (Nat.le_trans g.k2 (by decide)); rwa [Nat.one_mul] at this
  have absP : (σ * ((q * 2 ^ k : Nat) : Int)).natAbs = q * 2 ^ k := by rcases hσ with rfl | rfl <;> simp [Int.natAbs_mul, natAbs_pow]
  have absPK : (σ * (((q * 2 ^ k : Nat) : Int) + ((2 ^ k : Nat) : Int))).natAbs = q * 2 ^ k + 2 ^ k := by
    rw [← Int.natCast_add, Int.natAbs_mul, Int.natAbs_natCast]
    rcases hσ with rfl | rfl <;> simp
  have gT := gap_arith hσ hW hR p2 p3
  have bL := bound_arith hσ (g.eq) hW r1 hKP hb (hz.elim (fun h => .inl h.2) fun h => .inr h.2)
  rw [show 2 * 2 ^ 2089 = 2 ^ 2090 by rw [show 2090 = 2089 + 1 by rfl, Nat.pow_succ, Nat.mul_comm]] at bL
  have hy := fl_double h2 bL.1
  obtain ⟨x, hx, hxr⟩ := fl_add_rd h1 hy bL.2
  have n0 := hxr.near (F := σ * (q * 2 ^ k : Nat)) (by rw [absP]; exact rep0)
  have n1 := hxr.near (F := σ * ((q * 2 ^ k : Nat) + (2 ^ k : Nat))) (by rw [absPK]; exact rep1)
  have nn := g.none hxr.rep
  have n2 : 2 * r = 2 ^ k → x = H + 2 * L := fun he => by
    have := hxr.near (F := H + 2 * L) (by
      rcases hz with ⟨_, hz⟩ | ⟨_, hz⟩
      · rw [show H + 2 * L = σ * (((q * 2 ^ k : Nat) : Int) + ((2 ^ k : Nat) : Int)) from dbl_arith0 hW hz he, absPK]; exact rep1
      · rw [show H + 2 * L = σ * ((q * 2 ^ k : Nat) : Int) from dbl_arith1 hW hz he, absP]; exact rep0)
    rw [Int.sub_self, Int.natAbs_zero] at this
    exact (Int.sub_eq_zero.mp (Int.natAbs_eq_zero.mp (Nat.le_zero.mp this))).symm
  have gT' := g.shift gT.1 gT.2.1 gT.2.2.1
  have stay := fun Z h => rd_of (Z := Z) hσ gT' gT.2.2.2.1 h
  have gv := gT.2.2.2.2
  generalize ((r : Int) + σ * R).toNat = r' at stay gv
  clear gT gT' absP absPK hb bL hr hd g
  have pK : 0 < 2 ^ k := Nat.two_pow_pos k
  generalize q * 2 ^ k = P at *
  generalize 2 ^ k = K at *
  have xin := near_arith hσ (dbl_in' hW r1 hz) n0 n1 nn pK hKP
  have hdif : Rep (x - H).natAbs := by
    rcases dif_arith (K := K) hσ xin (hz.imp And.right And.right) with h | h
    · rw [h]; exact rep_zero
    · rw [h]; exact repK
  have hd2 := fl_sub hx h1 hdif
  have core := core_sgn (e := q % 2 = 0) hσ r0 r1 hR p2 p3 p4 p5 hW hN hs (by
    rcases hz with ⟨a, b⟩ | ⟨a, b⟩
    · exact .inl ⟨a, b⟩
    · exact .inr ⟨a.imp id fun c => ⟨c.1, by (first | lia | omega)⟩, b⟩) xin n2
  rw [← gv] at core
  rw [fl_lt0 h2, fl_lt0 h3, fl_gt0 h2, fl_gt0 h3, fl_cmpeq hy hd2]
  have up : ∀ Z, (((2 * (r' : Int) < K) ∧ Z = σ * (P : Int)) ∨ (((K : Int) < 2 * (r' : Int)) ∧ Z = σ * ((P : Int) + (K : Int)))) → Rd (H + L + R) Z := fun Z h => stay Z (by
    rcases h with ⟨a, b⟩ | ⟨a, b⟩
    · exact .inl ⟨.inl (by (first | lia | omega)), b⟩
    · exact .inr ⟨.inl (by (first | lia | omega)), b⟩)
  by_cases hc : ((L < 0 ∧ N < 0) ∨ (0 < L ∧ 0 < N))
  · rw [if_pos (by simpa using hc)]
    by_cases he : 2 * L = x - H
    · rw [if_pos (by simpa using he)]
      exact ⟨x, hx, up x (core.1 ⟨hc, he⟩)⟩
    · rw [if_neg (by simpa using he)]
      exact ⟨H, h1, up H (core.2 fun c => he c.2)⟩
  · rw [if_neg (by simpa using hc)]
    exact ⟨H, h1, up H (core.2 fun c => hc c.1)⟩

theorem sumA_bs : ∀ (l : List Int), sumA l ≤ bs l * 2 ^ 2060
  | [] => Nat.zero_le _
  | x :: l => by
    rw [bs_cons, Nat.add_mul]
    exact Nat.add_le_add (bs_bound x) (sumA_bs l)

theorem fsumEnd_spec {ps : List UInt64} {Ps : List Int} {S : Int} {n b : Nat} (h : Parts ps Ps S n b) (hb : b ≤ 2 ^ 24) : ∃ Z, Fl (fsumEnd ps) Z ∧ Rd S Z := by
  have hrev := h.fl.rev
  have hA : sumA Ps.reverse < 2 ^ 2089 := by
    rw [sumA_rev]
    refine Nat.lt_of_le_of_lt (sumA_bs Ps) ?_
    have h1 : bs Ps * 2 ^ 2060 ≤ 2 ^ 24 * 2 ^ 2060 := Nat.mul_le_mul_right _ (Nat.le_trans h.bsp hb)
    rw [← Nat.pow_add] at h1
    exact Nat.lt_of_le_of_lt h1 (Nat.pow_lt_pow_right (by decide) (by decide))
  have hS : sumI Ps.reverse = S := by rw [sumI_rev, h.sum]
  have hno : NO Ps.reverse.reverse := by rw [List.reverse_reverse]; exact h.no
  have hnz : ∀ p ∈ Ps.reverse, p ≠ 0 := fun p hp => h.nz p (List.mem_reverse.mp hp)
  unfold fsumEnd
  generalize ps.reverse = qs at *
  generalize Ps.reverse = Qs at *
  cases qs with
  | nil =>
    cases Qs with
    | cons _ _ => exact hrev.elim
    | nil =>
      have hS0 : S = 0 := hS.symm
      rw [hS0]
      exact ⟨0, fl_zero _, rd_self rep_zero⟩
  | cons x qs =>
    cases Qs with
    | nil => exact hrev.elim
    | cons X Qs =>
      rw [List.reverse_cons] at hno
      obtain ⟨H, L, rs, a1, a2, a3, a4, a5, a6⟩ := fsumTop_spec qs Qs x X hrev.2 hrev.1 (hnz X List.mem_cons_self) hno (fun p hp => hnz p (List.mem_cons_of_mem _ hp)) hA
      have hS' : X + sumI Qs = S := hS
      rw [hS'] at a4
      dsimp only
      generalize fsumTop x qs = tr at *
      obtain ⟨hi, lo, ns⟩ := tr
      dsimp only at a1 a2 a3 ⊢
      cases ns with
      | nil =>
        cases rs with
        | cons _ _ => exact a3.elim
        | nil =>
          have a4' : H + L + 0 = S := a4
          rw [Int.add_zero] at a4'
          rcases a6 with ⟨rfl, _⟩ | ⟨_, hr, _⟩
          · rw [Int.add_zero] at a4'
            subst a4'
            exact ⟨H, a1, rd_self (fl_rep a1)⟩
          · rw [← a4']
            exact ⟨H, a1, hr⟩
      | cons nx ns =>
        cases rs with
        | nil => exact a3.elim
        | cons N rs =>
          rcases a6 with ⟨_, h0⟩ | ⟨hL, hr, hbd, hno2, s, hd, hR⟩
          · cases h0
          rw [← a4]
          rw [List.reverse_cons] at hno2
          obtain ⟨s2, b1, b2⟩ := NO.split hno2
          rw [sumA_rev] at b1
          have hN := a5 N List.mem_cons_self
          have hNs : 2 ^ s2 ≤ N.natAbs := by
            have := Int.natAbs_dvd_natAbs.mpr (b2 N List.mem_cons_self)
            rw [Int.natAbs_natCast] at this
            exact Nat.le_of_dvd (by (clear this b2 b1 hR hd hno2 hbd hr hL a3 a5 a4 a2 a1 hS' hrev hnz hno hS hA hb h; grind)) this
          have hle := sumI_le rs
          have hle2 := sumI_le (N :: rs)
          have eR : sumI (N :: rs) = N + sumI rs := rfl
          refine end_core (R := sumI (N :: rs)) a1 a2 a3.1 hL hr hbd hd (Nat.lt_of_le_of_lt hle2 hR) hN ?_
          rw [eR]
          clear hR hd hbd hr hA
          constructor <;> intro <;> (clear eR hle2 hN b2 hno2 hL a3 a5 a4 a2 a1 hS' hrev hnz hno hS hb h; omega)

/-- fsum gives the sum, rounded once -/
theorem fsum_rd {xs : List UInt64} {Xs : List Int} (hf : FlL xs Xs) (hX : ∀ X ∈ Xs, X.natAbs ≤ 2 ^ 2074) (hlen : xs.length ≤ 64) : fsumOk [] xs ∧ ∃ Z, Fl (fsumP xs) Z ∧ Rd (sumI Xs) Z := by
  have hc : 0 + cost xs.length ≤ 2 ^ 24 := by
    rw [cost_eq, Nat.zero_add]
    exact Nat.le_trans (Nat.mul_le_mul_right 16500 hlen) (by decide)
  have hX' : ∀ X ∈ Xs, X.natAbs ≤ 2 ^ 14 * 2 ^ 2060 := fun X h => by rw [← Nat.pow_add]; exact hX X h
  obtain ⟨h1, Rs, b', h2, h3⟩ := parts_fold xs Xs [] [] 0 0 0 hf hX' ⟨trivial, rfl, trivial, fun _ h => (nomatch h), Nat.le_refl _, Nat.le_refl _⟩ (by (first | lia | omega)) hc
  rw [Int.zero_add] at h2
  exact ⟨h1, fsumEnd_spec h2 h3⟩
end Mine
end
theorem Mine.anewNe : True := by
  w_top off
  exact trivial
section
open PySem PySem.W PyProof.Rows PySem.Calls
set_option Elab.async false
set_option maxRecDepth 100000
set_option maxHeartbeats 8000000
set_option linter.unusedVariables false
namespace Mine

def defSS (n : Nat) : Scope := match (List.drop n PySem.Challenge.pw_kp0013_02.main.body : List Stmt) with
  | Stmt.FunctionDef _ _ _ _ _ _ sc _ _ _ :: _ => sc
  | _ => PySem.Challenge.pw_kp0013_02.main.scope
def defBs (n i : Nat) : List Stmt := match (List.drop n PySem.Challenge.pw_kp0013_02.main.body : List Stmt) with
  | Stmt.FunctionDef _ _ b _ _ _ _ _ _ _ :: _ => List.drop i b
  | _ => []
theorem pin3 {m : Str → Option Value} {a b c : Str} {x y z : Value} (h1 : m a = some x) (h2 : m b = some y) (h3 : m c = some z) : m = fun q => if q = a then some x else if q = b then some y else if q = c then some z else m q := by
  funext q
  by_cases ha : q = a
  · rw [if_pos ha, ha, h1]
  · rw [if_neg ha]
    by_cases hb : q = b
    · rw [if_pos hb, hb, h2]
    · rw [if_neg hb]
      by_cases hc : q = c
      · rw [if_pos hc, hc, h3]
      · rw [if_neg hc]
theorem wpAny_newTuple2 {M : Model} {A : Around} {E Q : Value → Shared → Prop} {s : Shared} {x y : Value} (h : Q (.ref s.heap.objs.size) { s with heap := s.heap.push { cls := .type "tuple", data := .seq #[x, y] 0 } }) : wpAny M A (newTuple [x, y]) Q E s :=
  wpAny_newTuple h
theorem getMethod_ratio {M : Model} {A : Around} {E : Value → Shared → Prop} {s : Shared} {x : UInt64} {t : Tok} {pl : Sem Bool} {Q : Value × List Value → Shared → Prop} (h : Q (.builtin "float.as_integer_ratio", [.float x t]) s) : wpAny M A (getMethod (.float x t) "as_integer_ratio" pl) Q E s := by
  with_reducible exact getMethod_builtin (typeIs_float _ _ _) F.plainAttrs_float F.slot_float_as_integer_ratio F.type_float_as_integer_ratio (fun _ e => nomatch e) h
theorem call_ratio {prog : Program} {w : World} {A : Around} {E Q : Value → Shared → Prop} {s : Shared} {x : UInt64} {t : Tok} {sg : Bool} {m : Nat} {e : Int} (hd : Float64.decode x = .fin sg m e)
    (h : Q (.ref s.heap.objs.size) { s with heap := s.heap.push { cls := .type "tuple", data := .seq #[.int (Float64.sgn sg (Float64.ratio m e).1) s.toks, .int (Float64.ratio m e).2 (s.toks + 1)] 0 }, toks := s.toks + 1 + 1 }) :
    wpAny (model prog w) A (call (.builtin "float.as_integer_ratio") [.float x t]) Q E s := by
  refine wpAny_call_entry F.slot_float_as_integer_ratio (typeIs_float s x t) F.entry_float_as_integer_ratio ?_ (F.args_float_as_integer_ratio_1 _)
  obtain ⟨hp, g, d, tk, os⟩ := s
  unfold Builtin.«float.as_integer_ratio»
  wp_walk
  rw [hd]
  dsimp only
  repeat (first | with_reducible refine wpAny_newTuple2 ?_ | wp_step)
  exact ⟨_, rfl, h⟩

section
variable {prog : Program} {w : World} {A : Around} {E Q : Value → Shared → Prop} {s : Shared} {a b v : Int} {t u : Tok}
theorem pow_to (hv : (2 : Int) ^ b.toNat = v) (h0 : 0 ≤ b) (h1 : b ≤ 1000000) (h : Q (.int v s.toks) { s with toks := s.toks + 1 }) : wpAny (model prog w) A (binaryOp .Pow (.int 2 t) (.int b u)) Q E s :=
  pow_int_small h0 h1 (by decide) (by rw [hv]; exact h)
theorem mul_to {m n : Nat} (hv : a * b = v) (ha : a.natAbs < 2 ^ m) (hb : b.natAbs < 2 ^ n) (hmn : m + n ≤ 134217728) (h : Q (.int v s.toks) { s with toks := s.toks + 1 }) : wpAny (model prog w) A (binaryOp .Mult (.int a t) (.int b u)) Q E s :=
  PyProof.Rows.mul_int (by rw [hv]; exact h) (IntMulOk.of_le (intBits_le_iff.mpr ha) (intBits_le_iff.mpr hb) hmn)
theorem fdiv_to (hv : a.fdiv b = v) (hb : b ≠ 0) (hs : b.natAbs < 2 ^ 9000) (h : Q (.int v s.toks) { s with toks := s.toks + 1 }) : wpAny (model prog w) A (binaryOp .FloorDiv (.int a t) (.int b u)) Q E s :=
  PyProof.Rows.floordiv_int hb (by rw [hv]; exact h) (.inl (PyProof.noPylong_of_log2 ((Nat.log2_lt (by omega)).mpr hs)))
end
theorem natAbs_mul_lt {a b : Int} {m n : Nat} (ha : a.natAbs < 2 ^ m) (hb : b.natAbs < 2 ^ n) : (a * b).natAbs < 2 ^ (m + n) := by
  rw [Int.natAbs_mul, Nat.pow_add]
  exact Nat.mul_lt_mul'' ha hb
theorem ratio_N {prog : Program} {w : World} {A : Around} {E Q : Value → Shared → Prop} {s : Shared} {x : UInt64} {t : Tok} {sg : Bool} {k : Nat} {e : Int} {g : Heap} {L : Addr} {m : Str → Option Value} {news : List (Addr × Obj)} (F : Fr g L s.heap m) (N : News g L s.heap news)
    (hd : Float64.decode x = .fin sg k e)
    (h : ∀ T h' a b tk, Fr g L h' m → News g L h' ((T, { cls := .type "tuple", data := .seq #[.int (Float64.sgn sg (Float64.ratio k e).1) a, .int (Float64.ratio k e).2 b] 0 }) :: news) → (∀ p ∈ news, p.1 < T) → Q (.ref T) { s with heap := h', toks := tk }) :
    wpAny (model prog w) A (call (.builtin "float.as_integer_ratio") [.float x t]) Q E s :=
  call_ratio hd (h _ _ _ _ _ (F.push _) (News.push F N _ rfl) fun p hp => Heap.lt_size (N p hp).1)
end Mine
end
theorem Mine.anewNt : True := by
  w_top off
  exact trivial
section
open PySem PySem.W PyProof.Rows PySem.Calls
set_option Elab.async false
set_option maxRecDepth 100000
set_option maxHeartbeats 8000000
set_option linter.unusedVariables false
namespace Mine

theorem clip_lo (s : Int) : 0 ≤ (if 0 > s then 0 else s) := by split <;> omega
theorem clip_hi {s : Int} (h : s.natAbs ≤ 1000000) : (if 0 > s then 0 else s) ≤ 1000000 := by split <;> omega
theorem nb1 {t : Nat} (h : t < 2 ^ 53) : (4 * (t : Int) - 1).natAbs < 2 ^ 56 := by omega
theorem nb2 {t : Nat} (h : t < 2 ^ 53) : (4 * (t : Int) - 2).natAbs < 2 ^ 56 := by omega
theorem nb3 {t : Nat} (h : t < 2 ^ 53) : (4 * (t : Int) + 2).natAbs < 2 ^ 56 := by omega
theorem abs4 (o : Int) : (if o < 0 then -o else o) * 4 = (o.natAbs : Int) * 4 := by split <;> omega
theorem abs_b {o : Int} {B : Nat} (h : o.natAbs < B) : (if o < 0 then -o else o).natAbs < B := by split <;> simpa using h
theorem near_tail {w : World} {p : Program} {loose : List Str} {mean : ExcName → Option Value} {mg mb : Str → Option Value} {dp un : Nat} {gd : Option (List Code)} {cn : Str} {cs : Scope} {L a : Addr} {ccd : Value} {cl : List (Str × Addr)} {outer : List Env} {base g : Heap} {s : Shared} {Q : Flow → Shared → Prop} {E : Value → Shared → Prop} {L' : Addr} {m : Str → Option Value} {S : Scope} {b : List Stmt} (eS : S = defSS 5) (eb : b = defBs 5 4)
   (B : Below (ktrTop dp un gd cn cs L a ccd cl outer) base (envX cn cs L a ccd cl :: outer) g) (X : (hd2.heap_39 w.params).In base) (T : Top p loose mean mg mb base)
   {x : UInt64} {o u : Int} {t1 t2 t3 : Tok} {news : List (Addr × Obj)} {t : Nat} {e : Int}
   (F : Fr g L' s.heap m) (hm1 : m "told" = some (.float x t1)) (hm2 : m "over" = some (.int o t2)) (hm3 : m "under" = some (.int u t3)) (N : News g L' s.heap news)
   (hx : Float64.decode (Float64.abs x) = .fin false t e) (ht1 : 2 ^ 52 ≤ t) (ht2 : t < 2 ^ 53) {n d : Int} (hn0 : Float64.sgn false (Float64.ratio t e).1 = n) (hd0 : ((Float64.ratio t e).2 : Int) = d)
   
   {sp St P2 Bt : Int} (hb : ((Builtin.Int.intBits n : Nat) : Int) - 53 = sp) (hsp : sp.natAbs ≤ 1000000) (q1 : (2 : Int) ^ (if 0 > sp then 0 else sp).toNat = St) (q2 : (2 : Int) ^ (if 0 > -sp then 0 else -sp).toNat = P2)
   (q3 : n * P2 = t * St) (q4 : St ≠ 0) (q5 : d * P2 = Bt) (bn : n.natAbs < 2 ^ 5000) (bP : P2.natAbs < 2 ^ 5000) (bS : St.natAbs < 2 ^ 5000) (bd : d.natAbs < 2 ^ 5000) (bB : Bt.natAbs < 2 ^ 5000) (bu : u.natAbs < 2 ^ 5000) (bo : o.natAbs < 2 ^ 5000)
   (H : ((t : Int).fmod 2 = 0 → (4 * (t : Int) - (if (t : Int) = 2 ^ 52 then 1 else 2)) * St * u ≤ (o.natAbs : Int) * 4 * Bt ∧ (o.natAbs : Int) * 4 * Bt ≤ (4 * (t : Int) + 2) * St * u) ∧
     (¬ (t : Int).fmod 2 = 0 → (4 * (t : Int) - (if (t : Int) = 2 ^ 52 then 1 else 2)) * St * u < (o.natAbs : Int) * 4 * Bt ∧ (o.natAbs : Int) * 4 * Bt < (4 * (t : Int) + 2) * St * u))
   (hroom : dp + 12 < recursionLimit) (hun : un + 12 < cLine)
   (ret : ∀ s' , (∀ b o, g.get? b = some o → s'.heap.get? b = some o) → s'.gens = s.gens → s'.drawn = s.drawn → s'.os = s.os → Q (.ret (.bool true)) s') :
   wpAny (model PySem.Challenge.rw_kp0013_02.row.prog w) ((ktrTop dp un gd cn cs L a ccd cl outer).deeper (envOf "_law_is_nearest" S L' 70 (.ref 69))) (execs b (envOf "_law_is_nearest" S L' 70 (.ref 69)))
     Q E s := by
  revert X; k_fill; intro X
  have Xg := X.keeps B.stays
  have Tg := T.keeps B.stays
  conv at eS => rhs; whnf
  conv at eb => rhs; whnf
  subst eS eb
  rw [pin3 hm1 hm2 hm3] at F
  (repeat' ((fail_if_success (with_reducible first | show wpAny _ _ (binaryOp .Pow _ _) _ _ _ | show wpAny _ _ (binaryOp .Mult _ _) _ _ _ | show wpAny _ _ (binaryOp .FloorDiv _ _) _ _ _)); first | (exfalso; omega) | (k_unfold; (try dsimp only)) | walk1 | (dsimp only; walk1) | (leave1; walk_say "STEP leave1"; try dsimp only)))
  refine getMethod_ratio ?_
  (repeat' ((fail_if_success (with_reducible first | show wpAny _ _ (binaryOp .Pow _ _) _ _ _ | show wpAny _ _ (binaryOp .Mult _ _) _ _ _ | show wpAny _ _ (binaryOp .FloorDiv _ _) _ _ _)); first | (exfalso; omega) | (k_unfold; (try dsimp only)) | walk1 | (dsimp only; walk1) | (leave1; walk_say "STEP leave1"; try dsimp only)))
  rename Fr _ _ _ _ => F
  rename News _ _ _ _ => N
  refine ratio_N F N hx fun T h2 ta tb tk F2 N2 lT => ?_
  rw [hn0, hd0] at N2
  clear F N
  (repeat' ((fail_if_success (with_reducible first | show wpAny _ _ (binaryOp .Pow _ _) _ _ _ | show wpAny _ _ (binaryOp .Mult _ _) _ _ _ | show wpAny _ _ (binaryOp .FloorDiv _ _) _ _ _)); first | (exfalso; omega) | (k_unfold; (try dsimp only)) | walk1 | (dsimp only; walk1) | (leave1; walk_say "STEP leave1"; try dsimp only)))
  rename Fr _ _ _ _ => F
  rename News _ _ _ _ => N
  rw [hb] at *
  refine pow_to q1 (clip_lo sp) (clip_hi hsp) ?_
  (repeat' ((fail_if_success (with_reducible first | show wpAny _ _ (binaryOp .Pow _ _) _ _ _ | show wpAny _ _ (binaryOp .Mult _ _) _ _ _ | show wpAny _ _ (binaryOp .FloorDiv _ _) _ _ _)); first | (exfalso; omega) | (k_unfold; (try dsimp only)) | walk1 | (dsimp only; walk1) | (leave1; walk_say "STEP leave1"; try dsimp only)))
  refine pow_to q2 (clip_lo (-sp)) (clip_hi (by rw [Int.natAbs_neg]; exact hsp)) ?_
  (repeat' ((fail_if_success (with_reducible first | show wpAny _ _ (binaryOp .Pow _ _) _ _ _ | show wpAny _ _ (binaryOp .Mult _ _) _ _ _ | show wpAny _ _ (binaryOp .FloorDiv _ _) _ _ _)); first | (exfalso; omega) | (k_unfold; (try dsimp only)) | walk1 | (dsimp only; walk1) | (leave1; walk_say "STEP leave1"; try dsimp only)))
  refine mul_to q3 bn bP (by decide) ?_
  (repeat' ((fail_if_success (with_reducible first | show wpAny _ _ (binaryOp .Pow _ _) _ _ _ | show wpAny _ _ (binaryOp .Mult _ _) _ _ _ | show wpAny _ _ (binaryOp .FloorDiv _ _) _ _ _)); first | (exfalso; omega) | (k_unfold; (try dsimp only)) | walk1 | (dsimp only; walk1) | (leave1; walk_say "STEP leave1"; try dsimp only)))
  refine fdiv_to (v := t) (Int.mul_fdiv_cancel _ q4) q4 (Nat.lt_of_lt_of_le bS (Nat.pow_le_pow_right (by decide) (by decide))) ?_
  (repeat' ((fail_if_success (with_reducible first | show wpAny _ _ (binaryOp .Pow _ _) _ _ _ | show wpAny _ _ (binaryOp .Mult _ _) _ _ _ | show wpAny _ _ (binaryOp .FloorDiv _ _) _ _ _)); first | (exfalso; omega) | (k_unfold; (try dsimp only)) | walk1 | (dsimp only; walk1) | (leave1; walk_say "STEP leave1"; try dsimp only)))
  refine pow_to q2 (clip_lo (-sp)) (clip_hi (by rw [Int.natAbs_neg]; exact hsp)) ?_
  (repeat' ((fail_if_success (with_reducible first | show wpAny _ _ (binaryOp .Pow _ _) _ _ _ | show wpAny _ _ (binaryOp .Mult _ _) _ _ _ | show wpAny _ _ (binaryOp .FloorDiv _ _) _ _ _)); first | (exfalso; omega) | (k_unfold; (try dsimp only)) | walk1 | (dsimp only; walk1) | (leave1; walk_say "STEP leave1"; try dsimp only)))
  refine mul_to q5 bd bP (by decide) ?_
  (repeat' ((fail_if_success (with_reducible first | show wpAny _ _ (binaryOp .Pow _ _) _ _ _ | show wpAny _ _ (binaryOp .Mult _ _) _ _ _ | show wpAny _ _ (binaryOp .FloorDiv _ _) _ _ _)); first | (exfalso; omega) | (k_unfold; (try dsimp only)) | walk1 | (dsimp only; walk1) | (leave1; walk_say "STEP leave1"; try dsimp only)))
  have bt : (t : Int).natAbs < 2 ^ 53 := by simpa using ht2
  refine mul_to (v := 4 * (t : Int)) (m := 3) rfl (by decide) bt (by decide) ?_
  (repeat' ((fail_if_success (with_reducible first | show wpAny _ _ (binaryOp .Pow _ _) _ _ _ | show wpAny _ _ (binaryOp .Mult _ _) _ _ _ | show wpAny _ _ (binaryOp .FloorDiv _ _) _ _ _)); first | (exfalso; omega) | (k_unfold; (try dsimp only)) | walk1 | (dsimp only; walk1) | (leave1; walk_say "STEP leave1"; try dsimp only)))
  refine pow_to (v := 2 ^ 52) rfl (by decide) (by decide) ?_
  (repeat' ((fail_if_success (with_reducible first | show wpAny _ _ (binaryOp .Pow _ _) _ _ _ | show wpAny _ _ (binaryOp .Mult _ _) _ _ _ | show wpAny _ _ (binaryOp .FloorDiv _ _) _ _ _)); first | (exfalso; omega) | (k_unfold; (try dsimp only)) | walk1 | (dsimp only; walk1) | (leave1; walk_say "STEP leave1"; try dsimp only)))
  · rename_i hc
    rw [if_pos hc] at H
    refine mul_to (v := (4 * (t : Int) - 1) * St) (m := 56) rfl (nb1 ht2) bS (by decide) ?_
    (repeat' ((fail_if_success (with_reducible first | show wpAny _ _ (binaryOp .Pow _ _) _ _ _ | show wpAny _ _ (binaryOp .Mult _ _) _ _ _ | show wpAny _ _ (binaryOp .FloorDiv _ _) _ _ _)); first | (exfalso; omega) | (k_unfold; (try dsimp only)) | walk1 | (dsimp only; walk1) | (leave1; walk_say "STEP leave1"; try dsimp only)))
    refine mul_to (v := (4 * (t : Int) - 1) * St * u) rfl (natAbs_mul_lt (m := 56) (nb1 ht2) bS) bu (by decide) ?_
    (repeat' ((fail_if_success (with_reducible first | show wpAny _ _ (binaryOp .Pow _ _) _ _ _ | show wpAny _ _ (binaryOp .Mult _ _) _ _ _ | show wpAny _ _ (binaryOp .FloorDiv _ _) _ _ _)); first | (exfalso; omega) | (k_unfold; (try dsimp only)) | walk1 | (dsimp only; walk1) | (leave1; walk_say "STEP leave1"; try dsimp only)))
    refine mul_to (v := 4 * (t : Int)) (m := 3) rfl (by decide) bt (by decide) ?_
    (repeat' ((fail_if_success (with_reducible first | show wpAny _ _ (binaryOp .Pow _ _) _ _ _ | show wpAny _ _ (binaryOp .Mult _ _) _ _ _ | show wpAny _ _ (binaryOp .FloorDiv _ _) _ _ _)); first | (exfalso; omega) | (k_unfold; (try dsimp only)) | walk1 | (dsimp only; walk1) | (leave1; walk_say "STEP leave1"; try dsimp only)))
    refine mul_to (v := (4 * (t : Int) + 2) * St) (m := 56) rfl (nb3 ht2) bS (by decide) ?_
    (repeat' ((fail_if_success (with_reducible first | show wpAny _ _ (binaryOp .Pow _ _) _ _ _ | show wpAny _ _ (binaryOp .Mult _ _) _ _ _ | show wpAny _ _ (binaryOp .FloorDiv _ _) _ _ _)); first | (exfalso; omega) | (k_unfold; (try dsimp only)) | walk1 | (dsimp only; walk1) | (leave1; walk_say "STEP leave1"; try dsimp only)))
    refine mul_to (v := (4 * (t : Int) + 2) * St * u) rfl (natAbs_mul_lt (m := 56) (nb3 ht2) bS) bu (by decide) ?_
    (repeat' ((fail_if_success (with_reducible first | show wpAny _ _ (binaryOp .Pow _ _) _ _ _ | show wpAny _ _ (binaryOp .Mult _ _) _ _ _ | show wpAny _ _ (binaryOp .FloorDiv _ _) _ _ _)); first | (exfalso; omega) | (k_unfold; (try dsimp only)) | walk1 | (dsimp only; walk1) | (leave1; walk_say "STEP leave1"; try dsimp only)))
    refine mul_to (v := (o.natAbs : Int) * 4) (n := 3) (abs4 o) (m := 5000) (abs_b bo) (by decide) (by decide) ?_
    (repeat' ((fail_if_success (with_reducible first | show wpAny _ _ (binaryOp .Pow _ _) _ _ _ | show wpAny _ _ (binaryOp .Mult _ _) _ _ _ | show wpAny _ _ (binaryOp .FloorDiv _ _) _ _ _)); first | (exfalso; omega) | (k_unfold; (try dsimp only)) | walk1 | (dsimp only; walk1) | (leave1; walk_say "STEP leave1"; try dsimp only)))
    refine mul_to (v := (o.natAbs : Int) * 4 * Bt) rfl (natAbs_mul_lt (n := 3) (by simpa using bo) (by decide)) bB (by decide) ?_
    (repeat' ((fail_if_success (with_reducible first | show wpAny _ _ (binaryOp .Pow _ _) _ _ _ | show wpAny _ _ (binaryOp .Mult _ _) _ _ _ | show wpAny _ _ (binaryOp .FloorDiv _ _) _ _ _)); first | (exfalso; omega) | (k_unfold; (try dsimp only)) | walk1 | (dsimp only; walk1) | (leave1; walk_say "STEP leave1"; try dsimp only)))
    all_goals
      rename Fr _ _ _ _ => F
      by_cases he : (t : Int).fmod 2 = 0
      · obtain ⟨H1, H2⟩ := H.1 he
        first
        | contradiction
        | (show Q (.ret (.bool (decide _))) _; rw [decide_eq_true H2]; exact ret _ F.keep rfl rfl rfl)
      · obtain ⟨H1, H2⟩ := H.2 he
        first
        | contradiction
        | (show Q (.ret (.bool (decide _))) _; rw [decide_eq_true H2]; exact ret _ F.keep rfl rfl rfl)
  · rename_i hc
    rw [if_neg hc] at H
    refine mul_to (v := (4 * (t : Int) - 2) * St) (m := 56) rfl (nb2 ht2) bS (by decide) ?_
    (repeat' ((fail_if_success (with_reducible first | show wpAny _ _ (binaryOp .Pow _ _) _ _ _ | show wpAny _ _ (binaryOp .Mult _ _) _ _ _ | show wpAny _ _ (binaryOp .FloorDiv _ _) _ _ _)); first | (exfalso; omega) | (k_unfold; (try dsimp only)) | walk1 | (dsimp only; walk1) | (leave1; walk_say "STEP leave1"; try dsimp only)))
    refine mul_to (v := (4 * (t : Int) - 2) * St * u) rfl (natAbs_mul_lt (m := 56) (nb2 ht2) bS) bu (by decide) ?_
    (repeat' ((fail_if_success (with_reducible first | show wpAny _ _ (binaryOp .Pow _ _) _ _ _ | show wpAny _ _ (binaryOp .Mult _ _) _ _ _ | show wpAny _ _ (binaryOp .FloorDiv _ _) _ _ _)); first | (exfalso; omega) | (k_unfold; (try dsimp only)) | walk1 | (dsimp only; walk1) | (leave1; walk_say "STEP leave1"; try dsimp only)))
    refine mul_to (v := 4 * (t : Int)) (m := 3) rfl (by decide) bt (by decide) ?_
    (repeat' ((fail_if_success (with_reducible first | show wpAny _ _ (binaryOp .Pow _ _) _ _ _ | show wpAny _ _ (binaryOp .Mult _ _) _ _ _ | show wpAny _ _ (binaryOp .FloorDiv _ _) _ _ _)); first | (exfalso; omega) | (k_unfold; (try dsimp only)) | walk1 | (dsimp only; walk1) | (leave1; walk_say "STEP leave1"; try dsimp only)))
    refine mul_to (v := (4 * (t : Int) + 2) * St) (m := 56) rfl (nb3 ht2) bS (by decide) ?_
    (repeat' ((fail_if_success (with_reducible first | show wpAny _ _ (binaryOp .Pow _ _) _ _ _ | show wpAny _ _ (binaryOp .Mult _ _) _ _ _ | show wpAny _ _ (binaryOp .FloorDiv _ _) _ _ _)); first | (exfalso; omega) | (k_unfold; (try dsimp only)) | walk1 | (dsimp only; walk1) | (leave1; walk_say "STEP leave1"; try dsimp only)))
    refine mul_to (v := (4 * (t : Int) + 2) * St * u) rfl (natAbs_mul_lt (m := 56) (nb3 ht2) bS) bu (by decide) ?_
    (repeat' ((fail_if_success (with_reducible first | show wpAny _ _ (binaryOp .Pow _ _) _ _ _ | show wpAny _ _ (binaryOp .Mult _ _) _ _ _ | show wpAny _ _ (binaryOp .FloorDiv _ _) _ _ _)); first | (exfalso; omega) | (k_unfold; (try dsimp only)) | walk1 | (dsimp only; walk1) | (leave1; walk_say "STEP leave1"; try dsimp only)))
    refine mul_to (v := (o.natAbs : Int) * 4) (n := 3) (abs4 o) (m := 5000) (abs_b bo) (by decide) (by decide) ?_
    (repeat' ((fail_if_success (with_reducible first | show wpAny _ _ (binaryOp .Pow _ _) _ _ _ | show wpAny _ _ (binaryOp .Mult _ _) _ _ _ | show wpAny _ _ (binaryOp .FloorDiv _ _) _ _ _)); first | (exfalso; omega) | (k_unfold; (try dsimp only)) | walk1 | (dsimp only; walk1) | (leave1; walk_say "STEP leave1"; try dsimp only)))
    refine mul_to (v := (o.natAbs : Int) * 4 * Bt) rfl (natAbs_mul_lt (n := 3) (by simpa using bo) (by decide)) bB (by decide) ?_
    (repeat' ((fail_if_success (with_reducible first | show wpAny _ _ (binaryOp .Pow _ _) _ _ _ | show wpAny _ _ (binaryOp .Mult _ _) _ _ _ | show wpAny _ _ (binaryOp .FloorDiv _ _) _ _ _)); first | (exfalso; omega) | (k_unfold; (try dsimp only)) | walk1 | (dsimp only; walk1) | (leave1; walk_say "STEP leave1"; try dsimp only)))
    all_goals
      rename Fr _ _ _ _ => F
      by_cases he : (t : Int).fmod 2 = 0
      · obtain ⟨H1, H2⟩ := H.1 he
        first
        | contradiction
        | (show Q (.ret (.bool (decide _))) _; rw [decide_eq_true H2]; exact ret _ F.keep rfl rfl rfl)
      · obtain ⟨H1, H2⟩ := H.2 he
        first
        | contradiction
        | (show Q (.ret (.bool (decide _))) _; rw [decide_eq_true H2]; exact ret _ F.keep rfl rfl rfl)
end Mine
end
theorem Mine.anewNq : True := by
  w_top off
  exact trivial
section
open PySem PySem.W PyProof.Rows PySem.Calls
set_option Elab.async false
set_option maxRecDepth 100000
set_option maxHeartbeats 8000000
set_option linter.unusedVariables false
namespace Mine

/-- the parts of the check, for a float t * 2 ^ e -/
structure Pars (t : Nat) (e : Int) (o u : Int) : Prop where
  lo : 2 ^ 52 ≤ t
  hi : t < 2 ^ 53
  parts : ∃ sp St P2 Bt : Int, ((Builtin.Int.intBits (Float64.sgn false (Float64.ratio t e).1) : Nat) : Int) - 53 = sp ∧ sp.natAbs ≤ 1000000 ∧ (2 : Int) ^ (if 0 > sp then 0 else sp).toNat = St ∧ (2 : Int) ^ (if 0 > -sp then 0 else -sp).toNat = P2 ∧
    Float64.sgn false (Float64.ratio t e).1 * P2 = t * St ∧ St ≠ 0 ∧ ((Float64.ratio t e).2 : Int) * P2 = Bt ∧ (Float64.sgn false (Float64.ratio t e).1).natAbs < 2 ^ 5000 ∧ P2.natAbs < 2 ^ 5000 ∧ St.natAbs < 2 ^ 5000 ∧ ((Float64.ratio t e).2 : Int).natAbs < 2 ^ 5000 ∧ Bt.natAbs < 2 ^ 5000 ∧
    ((t : Int).fmod 2 = 0 → (4 * (t : Int) - (if (t : Int) = 2 ^ 52 then 1 else 2)) * St * u ≤ (o.natAbs : Int) * 4 * Bt ∧ (o.natAbs : Int) * 4 * Bt ≤ (4 * (t : Int) + 2) * St * u) ∧
     (¬ (t : Int).fmod 2 = 0 → (4 * (t : Int) - (if (t : Int) = 2 ^ 52 then 1 else 2)) * St * u < (o.natAbs : Int) * 4 * Bt ∧ (o.natAbs : Int) * 4 * Bt < (4 * (t : Int) + 2) * St * u)
  bu : u.natAbs < 2 ^ 5000
  bo : o.natAbs < 2 ^ 5000

/-- a float is the nearest one to a quotient -/
def NearB (x : UInt64) (o u : Int) : Prop :=
  (o = 0 ∧ (Float64.cmpInt x 0 == some .eq) = true) ∨
  (o ≠ 0 ∧ (Float64.cmpInt x 0 == some .eq) = false ∧ (Float64.cmpInt x 0 == some .gt) = decide (0 < if u < 0 then -o else o) ∧ ∃ t e, Float64.decode (Float64.abs x) = .fin false t e ∧ Pars t e o u.natAbs)

theorem nearest {w : World} {p : Program} {loose : List Str} {mean : ExcName → Option Value} {mg mb : Str → Option Value} {dp un : Nat} {gd : Option (List Code)} {cn : Str} {cs : Scope} {L a : Addr} {ccd : Value} {cl : List (Str × Addr)} {outer : List Env} {base : Heap} {s : Shared} {Q E : Value → Shared → Prop}
   (K0 : Below (ktrTop dp un gd cn cs L a ccd cl outer) base (envX cn cs L a ccd cl :: outer) s.heap) {mods : List Addr} (hmb : ∀ b ∈ mods, base.get? b = none ∧ b ∉ frs (envX cn cs L a ccd cl :: outer)) (X : (hd2.heap_39 w.params).In base) (T : Top p loose mean mg mb base)
   {x : UInt64} {o u : Int} {t1 t2 t3 : Tok} (H : NearB x o u)
   (hroom : dp + 12 < recursionLimit) (hun : un + 12 < cLine)
   (ret : ∀ s', (∀ b o, b ∉ mods → s.heap.get? b = some o → s'.heap.get? b = some o) → s'.gens = s.gens → s'.drawn = s.drawn → s'.os = s.os → Q (.bool true) s') :
   wpAny (model PySem.Challenge.rw_kp0013_02.row.prog w) (ktrTop dp un gd cn cs L a ccd cl outer) (call (.ref 70) [.float x t1, .int o t2, .int u t3]) Q E s := by
  have X0 := X
  revert X; k_fill; intro X
  refine wpAny_call ?_
  refine' enter_plain2 (mods := mods) (binds := [("told", .float x t1), ("over", .int o t2), ("under", .int u t3)]) K0 hmb X T ?ho ?hcd ?hroom ?hbind ?hloc ?_ ?hcell ?hco ?hgen ?hk
  case ho => k_is
  case hcd => k_is
  case hroom => ktr_room
  case hbind => exact BindsTo.of_eq rfl
  case hloc => intro y hy; simp only [List.mem_cons, List.not_mem_nil, or_false] at hy; rcases hy with rfl | rfl | rfl <;> exact rfl
  case hcell => decide
  case hco => exact rfl
  case hgen => exact rfl
  case hk => exact rfl
  intro g L' h₁ F B Xg Tg Kp hmg hkeep hL'
  (try dsimp only)
  refine hide_post fun K0 EE hK0 hE0 => ?_
  have N : News g L' h₁ [] := News.nil
  rcases H with ⟨rfl, hz⟩ | ⟨ho, hz, hs, t, e, hx, P⟩
  · (repeat' ((fail_if_success (with_reducible first | show wpAny _ _ (getMethod _ _ _) _ _ _ | show wpAny _ _ (execs (_ :: _ :: _ :: _ :: _ :: _ :: _ :: _ :: _ :: [Stmt.Return _ _]) _) _ _ _ | show wpAny _ _ (binaryOp .Pow _ _) _ _ _ | show wpAny _ _ (binaryOp .Mult _ _) _ _ _ | show wpAny _ _ (binaryOp .FloorDiv _ _) _ _ _)); first | (exfalso; omega) | (k_unfold; (try dsimp only)) | walk1 | (dsimp only; walk1) | (leave1; walk_say "STEP leave1"; try dsimp only)))
    · rename Fr _ _ _ _ => F
      refine hK0 _ _ ?_
      show Q (.bool (Float64.cmpInt x (-0) == some .eq)) _
      rw [Int.neg_zero, hz]
      exact ret _ (fun b o m e => F.keep _ _ (Kp b o m e)) rfl rfl rfl
    · rename Fr _ _ _ _ => F
      refine hK0 _ _ ?_
      show Q (.bool (Float64.cmpInt x 0 == some .eq)) _
      rw [hz]
      exact ret _ (fun b o m e => F.keep _ _ (Kp b o m e)) rfl rfl rfl
  · have fin : ∀ (y : Shared) (F : ∀ b o, g.get? b = some o → y.heap.get? b = some o), y.gens = s.gens → y.drawn = s.drawn → y.os = s.os → K0 (.ret (.bool true)) y := fun y F g1 d1 o1 => hK0 _ _ (ret _ (fun b o m e => F _ _ (Kp b o m e)) g1 d1 o1)
    by_cases hu : u < 0
    · rw [if_pos hu] at hs
      have e1 : ((u.natAbs : Nat) : Int) = -u := by omega
      have e2 : (-o).natAbs = o.natAbs := Int.natAbs_neg o
      rw [e1] at P
      clear e1
      (repeat' ((fail_if_success (with_reducible first | show wpAny _ _ (getMethod _ _ _) _ _ _ | show wpAny _ _ (execs (_ :: _ :: _ :: _ :: _ :: _ :: _ :: _ :: _ :: [Stmt.Return _ _]) _) _ _ _ | show wpAny _ _ (binaryOp .Pow _ _) _ _ _ | show wpAny _ _ (binaryOp .Mult _ _) _ _ _ | show wpAny _ _ (binaryOp .FloorDiv _ _) _ _ _)); first | (exfalso; omega) | (k_unfold; (try dsimp only)) | walk1 | (dsimp only; walk1) | (leave1; walk_say "STEP leave1"; try dsimp only)))
      · exfalso
        rw [hs] at *
        simp_all
      · rename Fr _ _ _ _ => F
        rename News _ _ _ _ => N
        have P2b := P.bu
        obtain ⟨sp, St, P2, Bt, p1, p2, p3, p4, p5, p6, p7, p8, p9, p10, p11, p12, p13⟩ := P.parts
        rw [← e2] at p13
        exact near_tail rfl rfl B X0 T F rfl rfl rfl N hx P.lo P.hi rfl rfl p1 p2 p3 p4 p5 p6 p7 p8 p9 p10 p11 p12 P2b (by rw [e2]; exact P.bo) p13 hroom hun fin
    · rw [if_neg hu] at hs
      have e1 : ((u.natAbs : Nat) : Int) = u := by omega
      rw [e1] at P
      clear e1
      (repeat' ((fail_if_success (with_reducible first | show wpAny _ _ (getMethod _ _ _) _ _ _ | show wpAny _ _ (execs (_ :: _ :: _ :: _ :: _ :: _ :: _ :: _ :: _ :: [Stmt.Return _ _]) _) _ _ _ | show wpAny _ _ (binaryOp .Pow _ _) _ _ _ | show wpAny _ _ (binaryOp .Mult _ _) _ _ _ | show wpAny _ _ (binaryOp .FloorDiv _ _) _ _ _)); first | (exfalso; omega) | (k_unfold; (try dsimp only)) | walk1 | (dsimp only; walk1) | (leave1; walk_say "STEP leave1"; try dsimp only)))
      · exfalso
        rw [hs] at *
        simp_all
      · rename Fr _ _ _ _ => F
        rename News _ _ _ _ => N
        obtain ⟨sp, St, P2, Bt, p1, p2, p3, p4, p5, p6, p7, p8, p9, p10, p11, p12, p13⟩ := P.parts
        exact near_tail rfl rfl B X0 T F rfl rfl rfl N hx P.lo P.hi rfl rfl p1 p2 p3 p4 p5 p6 p7 p8 p9 p10 p11 p12 P.bu P.bo p13 hroom hun fin
end Mine
end
theorem Mine.anewNa : True := by
  w_top off
  exact trivial
section
open PySem PySem.W PyProof.Rows
set_option Elab.async false
set_option maxRecDepth 100000
set_option exponentiation.threshold 3000
set_option linter.unusedVariables false
namespace Mine
open Float64
theorem decode_shape {x : UInt64} {a : Bool} {m : Nat} {e : Int} (h : decode x = .fin a m e) : m < 2 ^ 53 ∧ (2 ^ 52 ≤ m ∨ e = -1074) ∧ e ≤ 971 := by
  unfold decode at h
  simp only at h
  have hf : x.toNat % 2 ^ 52 < 2 ^ 52 := Nat.mod_lt _ (by decide)
  split at h
  · split at h <;> cases h
  · rename_i h1
    split at h
    · cases h; (first | grind | omega)
    · rename_i h2
      cases h
      have h3 : x.toNat / 2 ^ 52 % 2048 < 2048 := Nat.mod_lt _ (by decide)
      have h4 : x.toNat / 2 ^ 52 % 2048 ≠ 2047 := by simpa using h1
      (clear h2 h1; grind)
/-- the float t * 2 ^ k (in least units) lies nearest to W / D -/
structure NearC (q k W D : Nat) : Prop where
  lo : 2 ^ 52 ≤ q
  hi : q < 2 ^ 53
  even : q % 2 = 0 → 4 * q * 2 ^ k * D ≤ 4 * W + (if q = 2 ^ 52 then 1 else 2) * 2 ^ k * D ∧ 4 * W ≤ (4 * q + 2) * 2 ^ k * D
  odd : q % 2 = 1 → 4 * q * 2 ^ k * D < 4 * W + (if q = 2 ^ 52 then 1 else 2) * 2 ^ k * D ∧ 4 * W < (4 * q + 2) * 2 ^ k * D
theorem NearC.scale {q k W D j : Nat} (h : NearC q (k + j) W D) : NearC q k W (D * 2 ^ j) := by
  have e : ∀ a : Nat, a * 2 ^ (k + j) * D = a * 2 ^ k * (D * 2 ^ j) := fun a => by rw [Nat.pow_add]; ac_rfl
  refine ⟨h.lo, h.hi, fun p => ?_, fun p => ?_⟩
  · have := h.even p
    rwa [e, e, e] at this
  · have := h.odd p
    rwa [e, e, e] at this
/-- a rightly rounded quotient -/
theorem right_near {x : UInt64} {neg : Bool} {W D : Nat} (h : Right x neg W D) (hD : 0 < D) (hlo : D * 2 ^ 52 ≤ W) (hhi : 2 * W < D * ((2 ^ 54 - 1) * 2 ^ 2045)) :
    ∃ q k, NearC q k W D ∧ Fl x (sgn neg (q * 2 ^ k)) := by
  obtain ⟨t, rfl, hle, hov, hn⟩ := h
  have hlt : t < infMag := by
    rcases Nat.lt_or_eq_of_le hle with h | h
    · exact h
    · exact absurd (hov.mp h) (Nat.not_le.mpr hhi)
  obtain ⟨k, q, rfl, hq, hqk, hV⟩ := V_form t
  have hn := hn hlt
  obtain ⟨m, e, hde, _⟩ := decode_pack neg hlt
  have hf : Fl (pack neg (k * 2 ^ 52 + q)) (sgn neg (q * 2 ^ k)) := ⟨⟨neg, m, e, hde⟩, by rw [val_pack neg hlt, hV]⟩
  rw [hV] at hn
  clear hhi hov hle hlt hde
  have v1 : V (k * 2 ^ 52 + q + 1) = (q + 1) * 2 ^ k := by
    have h2 : 2 ^ 52 ≤ q + 1 ∨ k = 0 := hqk.elim (fun z => .inl (Nat.le_succ_of_le z)) .inr
    have := V_at (k := k) (q := q + 1) hq h2
    rwa [← Nat.add_assoc] at this
  have h1 := hn (k * 2 ^ 52 + q + 1)
  rw [v1] at h1
  have hP := Nat.two_pow_pos k
  have hq52 : 2 ^ 52 ≤ q := by
    rcases hqk with z | rfl
    · exact z
    · -- k = 0
      rcases Nat.lt_or_ge q (2 ^ 52) with hl | hl
      · exfalso
        have hd := (hn (2 ^ 52)).1
        have hV2 : V (2 ^ 52) = 2 ^ 52 * 2 ^ 0 := by
          have := V_at (k := 0) (q := 2 ^ 52) (by decide) (.inr rfl)
          rw [Nat.zero_mul, Nat.zero_add] at this
          exact this
        rw [hV2] at hd
        simp only [Nat.pow_zero, Nat.mul_one] at hd
        have a1 : D * q < D * 2 ^ 52 := Nat.mul_lt_mul_of_pos_left hl hD
        have key : ∀ A B : Nat, A < B → B ≤ W → dist W A ≤ dist W B → False := fun A B h1 h2 h3 => by unfold dist at h3; (clear a1 hd hV2 hl hP hf hn hV hq hlo hD; lia)
        exact key _ _ a1 hlo hd
      · exact hl
  have up : 4 * W ≤ (4 * q + 2) * 2 ^ k * D ∧ (q % 2 = 1 → 4 * W < (4 * q + 2) * 2 ^ k * D) := by
    have e1 : D * ((q + 1) * 2 ^ k) = D * (q * 2 ^ k) + D * 2 ^ k := by rw [Nat.add_mul, Nat.one_mul, Nat.mul_add]
    have e2 : (4 * q + 2) * 2 ^ k * D = 4 * (D * (q * 2 ^ k)) + 2 * (D * 2 ^ k) := by rw [Nat.add_mul, Nat.add_mul]; congr 1 <;> ac_rfl
    have hne : (q + 1) * 2 ^ k ≠ q * 2 ^ k := by rw [Nat.add_mul, Nat.one_mul]; (first | grind | omega)
    have h2 := h1.2 hne
    have h1 := h1.1
    have hDP : 0 < D * 2 ^ k := Nat.mul_pos hD hP
    rw [e1] at h1 h2
    rw [e2]
    rw [par_add k q] at h2
    have u1 := dist_up hDP h1
    refine ⟨u1, fun ho => Nat.lt_of_le_of_ne u1 fun z => ?_⟩
    have := h2 (dist_tie z)
    rw [ho] at this
    exact absurd this (by decide)
  have low : 4 * q * 2 ^ k * D ≤ 4 * W + (if q = 2 ^ 52 then 1 else 2) * 2 ^ k * D ∧ (q % 2 = 1 → 4 * q * 2 ^ k * D < 4 * W + (if q = 2 ^ 52 then 1 else 2) * 2 ^ k * D) := by
    by_cases hq0 : q = 2 ^ 52
    · subst hq0
      rw [if_pos rfl]
      refine ⟨?_, fun h => absurd h (by decide)⟩
      cases k with
      | zero =>
        simp only [Nat.pow_zero, Nat.mul_one, Nat.one_mul]
        have : D * 2 ^ 52 = 2 ^ 52 * D := Nat.mul_comm _ _
        have e : 4 * 2 ^ 52 * D = 4 * (2 ^ 52 * D) := Nat.mul_assoc _ _ _
        rw [e]
        (clear e this up h1 v1 hf hn hV hqk hP hq52 hq hD; grind)
      | succ k =>
        have v2 : V (k * 2 ^ 52 + (2 ^ 53 - 1)) = (2 ^ 53 - 1) * 2 ^ k := V_at (by decide) (.inl (by decide))
        have h3 := (hn (k * 2 ^ 52 + (2 ^ 53 - 1))).1
        rw [v2] at h3
        have e1 : D * ((2 ^ 53 - 1) * 2 ^ k) + D * 2 ^ k = D * (2 ^ 52 * 2 ^ (k + 1)) := by
          rw [Nat.pow_succ 2 k, ← Nat.mul_add]
          congr 1
          generalize 2 ^ k = P
          (first | grind | omega)
        have e2 : 4 * 2 ^ 52 * 2 ^ (k + 1) * D = 4 * (D * (2 ^ 52 * 2 ^ (k + 1))) := by ac_rfl
        have e3 : 1 * 2 ^ (k + 1) * D = 2 * (D * 2 ^ k) := by rw [Nat.pow_succ]; ac_rfl
        have hDP : 0 < D * 2 ^ k := Nat.mul_pos hD (Nat.two_pow_pos k)
        rw [← e1] at h3
        have u := dist_dn hDP h3
        rw [e2, e3, ← e1, Nat.mul_add]
        clear h1 up hf hn e1 e2 e3 v1 v2 hP h3 hqk hq
        generalize D * ((2 ^ 53 - 1) * 2 ^ k) = B at *
        generalize D * 2 ^ k = G at *
        lia
    · rw [if_neg hq0]
      obtain ⟨p, rfl⟩ : ∃ p, q = p + 1 := ⟨q - 1, by (clear hq0 up hP h1 v1 hf hn hV hqk hq hlo hD; lia)⟩
      have v2 : V (k * 2 ^ 52 + p) = p * 2 ^ k := V_at (by lia) (by lia)
      have h3 := hn (k * 2 ^ 52 + p)
      rw [v2] at h3
      have e1 : D * ((p + 1) * 2 ^ k) = D * (p * 2 ^ k) + D * 2 ^ k := by rw [Nat.add_mul, Nat.one_mul, Nat.mul_add]
      have e2 : 4 * (p + 1) * 2 ^ k * D = 4 * (D * (p * 2 ^ k)) + 4 * (D * 2 ^ k) := by rw [Nat.mul_add, Nat.add_mul, Nat.add_mul]; congr 1 <;> ac_rfl
      have e3 : 2 * 2 ^ k * D = 2 * (D * 2 ^ k) := by ac_rfl
      have hne : p * 2 ^ k ≠ (p + 1) * 2 ^ k := by rw [Nat.add_mul, Nat.one_mul]; (first | grind | omega)
      have h2 := h3.2 hne
      have h3 := h3.1
      have hDP : 0 < D * 2 ^ k := Nat.mul_pos hD hP
      rw [par_add k (p + 1)] at h2
      rw [e1] at h3 h2
      rw [e2, e3]
      have u := dist_dn hDP h3
      have fin : 4 * (D * (p * 2 ^ k)) + 4 * (D * 2 ^ k) ≤ 4 * W + 2 * (D * 2 ^ k) := by
        clear h1 up hf hn e1 e2 e3 v1 v2 hP h3 hqk hq h2 hne hDP hq52 hq0 hlo
        generalize D * (p * 2 ^ k) = A at *
        generalize D * 2 ^ k = G at *
        lia
      refine ⟨fin, fun ho => Nat.lt_of_le_of_ne fin fun z => ?_⟩
      have := h2 (by
        refine (dist_tie ?_).symm
        clear h1 up hf hn e1 e2 e3 v1 v2 hP h3 hqk hq h2 hne hDP hq52 hq0 hlo fin u ho
        generalize D * (p * 2 ^ k) = A at *
        generalize D * 2 ^ k = G at *
        lia)
      rw [ho] at this
      exact absurd this (by decide)
  exact ⟨q, k, ⟨hq52, hq, fun _ => ⟨low.1, up.1⟩, fun ho => ⟨low.2 ho, up.2 ho⟩⟩, hf⟩
/-- a rounded whole number of least units -/
theorem rn_near {W Z : Nat} (h : Rn W Z) (hlo : 2 ^ 52 ≤ W) : ∃ q k, NearC q k W 1 ∧ Z = q * 2 ^ k := by
  rcases h with ⟨hr, rfl⟩ | ⟨q, k, r, g, h⟩
  · obtain ⟨q, k, e, hq, hqk, hk⟩ := hr.form
    subst e
    have hq52 : 2 ^ 52 ≤ q := by
      rcases hqk with z | rfl
      · exact z
      · simpa using hlo
    have hP := Nat.two_pow_pos k
    have e1 : 4 * q * 2 ^ k * 1 = 4 * (q * 2 ^ k) := by rw [Nat.mul_one, Nat.mul_assoc]
    have e2 : (4 * q + 2) * 2 ^ k * 1 = 4 * (q * 2 ^ k) + 2 * 2 ^ k := by rw [Nat.mul_one, Nat.add_mul, Nat.mul_assoc]
    have e3 : 0 < (if q = 2 ^ 52 then 1 else 2) * 2 ^ k * 1 := by
      rw [Nat.mul_one]
      exact Nat.mul_pos (by split <;> decide) hP
    refine ⟨q, k, ⟨hq52, hq, fun _ => ?_, fun _ => ?_⟩, rfl⟩
    · rw [e1, e2]; (first | lia | omega)
    · rw [e1, e2]; (first | lia | omega)
  · have g1 := g.lo
    have g2 := g.hi
    have g3 := g.r0
    have g4 := g.r1
    have g5 := g.eq
    have hP := Nat.two_pow_pos k
    have e1 : ∀ q : Nat, 4 * q * 2 ^ k * 1 = 4 * (q * 2 ^ k) := fun q => by rw [Nat.mul_one, Nat.mul_assoc]
    have e2 : ∀ q : Nat, (4 * q + 2) * 2 ^ k * 1 = 4 * (q * 2 ^ k) + 2 * 2 ^ k := fun q => by rw [Nat.mul_one, Nat.add_mul, Nat.mul_assoc]
    rcases h with ⟨h, rfl⟩ | ⟨h, rfl⟩
    · refine ⟨q, k, ⟨g1, g2, fun _ => ?_, fun _ => ?_⟩, rfl⟩
      · rw [e1, e2]
        have : 0 ≤ (if q = 2 ^ 52 then 1 else 2) * 2 ^ k * 1 := Nat.zero_le _
        generalize q * 2 ^ k = A at *
        generalize 2 ^ k = G at *
        (clear this e2 e1 hP g4 g3 g2 g1 g; lia)
      · rw [e1, e2]
        generalize (if q = 2 ^ 52 then 1 else 2) * 2 ^ k * 1 = J at *
        generalize q * 2 ^ k = A at *
        generalize 2 ^ k = G at *
        (first | lia | omega)
    · have e3 : (q + 1) * 2 ^ k = q * 2 ^ k + 2 ^ k := by rw [Nat.add_mul, Nat.one_mul]
      rcases Nat.lt_or_ge (q + 1) (2 ^ 53) with hq | hq
      · have hne : q + 1 ≠ 2 ^ 52 := by (first | lia | omega)
        refine ⟨q + 1, k, ⟨by (first | lia | omega), hq, fun _ => ?_, fun _ => ?_⟩, by rw [e3]⟩
        · rw [e1, e2, e3, if_neg hne, Nat.mul_one]
          generalize q * 2 ^ k = A at *
          generalize 2 ^ k = G at *
          (clear e3 e2 e1 hP hne hq g3 g2 g1 g; grind)
        · rw [e1, e2, e3, if_neg hne, Nat.mul_one]
          generalize q * 2 ^ k = A at *
          generalize 2 ^ k = G at *
          (clear e3 e2 e1 hP hne hq g3 g2 g1 g; grind)
      · have hq : q = 2 ^ 53 - 1 := by (first | lia | omega)
        have e4 : q * 2 ^ k + 2 ^ k = 2 ^ 52 * 2 ^ (k + 1) := by rw [← e3, hq, Nat.pow_succ 2 k]; generalize 2 ^ k = P; (first | lia | omega)
        refine ⟨2 ^ 52, k + 1, ⟨by decide, by decide, fun _ => ?_, fun h => absurd h (by decide)⟩, e4⟩
        have e5 : 4 * 2 ^ 52 * 2 ^ (k + 1) * 1 = 4 * (2 ^ 52 * 2 ^ (k + 1)) := by rw [Nat.mul_one, Nat.mul_assoc]
        have e6 : (4 * 2 ^ 52 + 2) * 2 ^ (k + 1) * 1 = 4 * (2 ^ 52 * 2 ^ (k + 1)) + 2 * 2 ^ (k + 1) := by rw [Nat.mul_one, Nat.add_mul, Nat.mul_assoc]
        rw [e5, e6, if_pos rfl, ← e4, Nat.mul_one, Nat.one_mul, Nat.pow_succ 2 k]
        clear e4 e5 e6
        generalize q * 2 ^ k = A at *
        generalize 2 ^ k = G at *
        (clear e3 e2 e1 hP hq g3 g2 g1 g hlo; grind)
end Mine
end
theorem Mine.anewNb : True := by
  w_top off
  exact trivial
section
open PySem PySem.W PyProof.Rows
set_option Elab.async false
set_option maxRecDepth 100000
set_option exponentiation.threshold 6000
set_option linter.unusedVariables false
namespace Mine
open Float64
theorem gcd_pow (j : Nat) : ∀ q : Nat, ∃ i, i ≤ j ∧ Nat.gcd q (2 ^ j) = 2 ^ i := by
  induction j with
  | zero => exact fun q => ⟨0, Nat.le_refl _, by simp⟩
  | succ j ih =>
    intro q
    rcases Nat.mod_two_eq_zero_or_one q with h | h
    · obtain ⟨p, rfl⟩ : ∃ p, q = 2 * p := ⟨q / 2, by (first | grind | omega)⟩
      obtain ⟨i, hi, e⟩ := ih p
      exact ⟨i + 1, by lia, by rw [Nat.pow_succ 2 j, Nat.mul_comm (2 ^ j), Nat.gcd_mul_left, e, Nat.pow_succ 2 i, Nat.mul_comm]⟩
    · obtain ⟨i, hi, e⟩ := ih q
      have h2 : Nat.Coprime q 2 := by
        show Nat.gcd q 2 = 1
        rw [Nat.gcd_comm, Nat.gcd_rec, h]
        decide
      have h1 : Nat.Coprime q (2 ^ j) := by
        show Nat.gcd q (2 ^ j) = 1
        cases i with
        | zero => exact e
        | succ i =>
          exfalso
          have hd : 2 ^ (i + 1) ∣ q := e ▸ Nat.gcd_dvd_left q (2 ^ j)
          have h3 : 2 ∣ q := Nat.dvd_trans ⟨2 ^ i, by rw [Nat.pow_succ, Nat.mul_comm]⟩ hd
          (first | grind | omega)
      refine ⟨0, Nat.zero_le _, ?_⟩
      rw [Nat.pow_succ 2 j]
      exact Nat.Coprime.mul_right h1 h2
theorem same_form {q k m j : Nat} (h : q * 2 ^ k = m * 2 ^ j) (q1 : 2 ^ 52 ≤ q) (q2 : q < 2 ^ 53) (m2 : m < 2 ^ 53) (m1 : 2 ^ 52 ≤ m ∨ j = 0) : m = q ∧ j = k := by
  rcases Nat.lt_trichotomy j k with hl | rfl | hg
  · exfalso
    obtain ⟨d, rfl⟩ : ∃ d, k = j + (d + 1) := ⟨k - j - 1, by (first | grind | omega)⟩
    rw [Nat.pow_add, ← Nat.mul_assoc, Nat.mul_right_comm] at h
    have h := Nat.eq_of_mul_eq_mul_right (Nat.two_pow_pos j) h
    have : q * 2 ≤ q * 2 ^ (d + 1) := Nat.mul_le_mul_left _ (by rw [Nat.pow_succ 2 d]; have := Nat.two_pow_pos d; (first | grind | omega))
    (first | grind | omega)
  · exact ⟨(Nat.eq_of_mul_eq_mul_right (Nat.two_pow_pos _) h).symm, rfl⟩
  · exfalso
    obtain ⟨d, rfl⟩ : ∃ d, j = k + (d + 1) := ⟨j - k - 1, by (first | grind | omega)⟩
    rw [Nat.pow_add, ← Nat.mul_assoc, Nat.mul_right_comm] at h
    have h := Nat.eq_of_mul_eq_mul_right (Nat.two_pow_pos k) h
    have : m * 2 ≤ m * 2 ^ (d + 1) := Nat.mul_le_mul_left _ (by rw [Nat.pow_succ 2 d]; have := Nat.two_pow_pos d; omega)
    have hm : 2 ^ 52 ≤ m := m1.elim id (fun z => by (first | grind | omega))
    (clear hg m1 m2 q1; grind)
theorem cross_lo {A K D W u o St Bt P : Nat} (hP : 0 < P) (hD : 0 < D) (hSB : St * P = K * Bt) (hv : o * P * D = W * u) (h : A * K * D ≤ 4 * W) : A * St * u ≤ o * 4 * Bt := by
  refine Nat.le_of_mul_le_mul_right (?_ : A * St * u * (P * D) ≤ o * 4 * Bt * (P * D)) (Nat.mul_pos hP hD)
  have e1 : A * St * u * (P * D) = A * K * D * (u * Bt) := by
    rw [show A * St * u * (P * D) = A * (St * P) * u * D by ac_rfl, hSB]; ac_rfl
  have e2 : o * 4 * Bt * (P * D) = 4 * W * (u * Bt) := by
    rw [show o * 4 * Bt * (P * D) = 4 * (o * P * D) * Bt by ac_rfl, hv]; ac_rfl
  rw [e1, e2]
  exact Nat.mul_le_mul_right _ h
theorem cross_hi {A K D W u o St Bt P : Nat} (hP : 0 < P) (hD : 0 < D) (hSB : St * P = K * Bt) (hv : o * P * D = W * u) (h : 4 * W ≤ A * K * D) : o * 4 * Bt ≤ A * St * u := by
  refine Nat.le_of_mul_le_mul_right (?_ : o * 4 * Bt * (P * D) ≤ A * St * u * (P * D)) (Nat.mul_pos hP hD)
  have e1 : A * St * u * (P * D) = A * K * D * (u * Bt) := by
    rw [show A * St * u * (P * D) = A * (St * P) * u * D by ac_rfl, hSB]; ac_rfl
  have e2 : o * 4 * Bt * (P * D) = 4 * W * (u * Bt) := by
    rw [show o * 4 * Bt * (P * D) = 4 * (o * P * D) * Bt by ac_rfl, hv]; ac_rfl
  rw [e1, e2]
  exact Nat.mul_le_mul_right _ h
theorem cross_lo' {A K D W u o St Bt P : Nat} (hP : 0 < P) (hD : 0 < D) (hu : 0 < u) (hB : 0 < Bt) (hSB : St * P = K * Bt) (hv : o * P * D = W * u) (h : A * K * D < 4 * W) : A * St * u < o * 4 * Bt := by
  refine Nat.lt_of_mul_lt_mul_right (a := P * D) ?_
  have e1 : A * St * u * (P * D) = A * K * D * (u * Bt) := by
    rw [show A * St * u * (P * D) = A * (St * P) * u * D by ac_rfl, hSB]; ac_rfl
  have e2 : o * 4 * Bt * (P * D) = 4 * W * (u * Bt) := by
    rw [show o * 4 * Bt * (P * D) = 4 * (o * P * D) * Bt by ac_rfl, hv]; ac_rfl
  rw [e1, e2]
  exact Nat.mul_lt_mul_of_pos_right h (Nat.mul_pos hu hB)
theorem cross_hi' {A K D W u o St Bt P : Nat} (hP : 0 < P) (hD : 0 < D) (hu : 0 < u) (hB : 0 < Bt) (hSB : St * P = K * Bt) (hv : o * P * D = W * u) (h : 4 * W < A * K * D) : o * 4 * Bt < A * St * u := by
  refine Nat.lt_of_mul_lt_mul_right (a := P * D) ?_
  have e1 : A * St * u * (P * D) = A * K * D * (u * Bt) := by
    rw [show A * St * u * (P * D) = A * (St * P) * u * D by ac_rfl, hSB]; ac_rfl
  have e2 : o * 4 * Bt * (P * D) = 4 * W * (u * Bt) := by
    rw [show o * 4 * Bt * (P * D) = 4 * (o * P * D) * Bt by ac_rfl, hv]; ac_rfl
  rw [e1, e2]
  exact Nat.mul_lt_mul_of_pos_right h (Nat.mul_pos hu hB)
/-- the parts of the law's test, as whole numbers -/
theorem ratio_parts {q k : Nat} (q1 : 2 ^ 52 ≤ q) (q2 : q < 2 ^ 53) (hk : k ≤ 2045) :
    ∃ (n d : Nat) (sp : Int) (S B P : Nat), Float64.ratio q ((k : Int) - 1074) = (n, d) ∧ ((Builtin.Int.intBits (n : Int) : Nat) : Int) - 53 = sp ∧ sp.natAbs ≤ 1000000 ∧ (2 : Int) ^ (if 0 > sp then 0 else sp).toNat = ((2 ^ S : Nat) : Int) ∧ (2 : Int) ^ (if 0 > -sp then 0 else -sp).toNat = ((2 ^ P : Nat) : Int) ∧
      n * 2 ^ P = q * 2 ^ S ∧ d * 2 ^ P = 2 ^ B ∧ 2 ^ S * 2 ^ 1074 = 2 ^ k * 2 ^ B ∧ n < 2 ^ 3000 ∧ P ≤ 3000 ∧ S ≤ 3000 ∧ d < 2 ^ 3000 ∧ B ≤ 3000 := by
  have bits : ∀ (n j : Nat), 2 ^ j ≤ n → n < 2 ^ (j + 1) → Builtin.Int.intBits (n : Int) = j + 1 := fun n j h1 h2 => by
    have a : Builtin.Int.intBits (n : Int) ≤ j + 1 := intBits_le_iff.mpr (by rw [Int.natAbs_natCast]; exact h2)
    have b : ¬ Builtin.Int.intBits (n : Int) ≤ j := fun q => absurd (intBits_le_iff.mp q) (by rw [Int.natAbs_natCast]; lia)
    lia
  rcases Nat.lt_or_ge k 1074 with hl | hg
  · obtain ⟨i, hi, eg⟩ := gcd_pow (1074 - k) q
    have hd : 2 ^ i ∣ q := eg ▸ Nat.gcd_dvd_left _ _
    obtain ⟨n, hn⟩ := hd
    have hqp : 0 < q := Nat.lt_of_lt_of_le (Nat.two_pow_pos 52) q1
    have hi52 : i ≤ 52 := by
      rcases Nat.lt_or_ge 52 i with z | z
      · exfalso
        have a1 : 2 ^ i ≤ q := Nat.le_of_dvd hqp ⟨n, hn⟩
        have a2 : 2 ^ 53 ≤ 2 ^ i := Nat.pow_le_pow_right (by decide) z
        lia
      · exact z
    have hr : Float64.ratio q ((k : Int) - 1074) = (n, 2 ^ (1074 - k - i)) := by
      unfold Float64.ratio shift
      rw [if_neg (by lia)]
      have e : (-((k : Int) - 1074)).toNat = 1074 - k := by (first | grind | omega)
      simp only [e, Nat.one_mul, eg]
      congr 1
      · rw [hn, Nat.mul_div_cancel_left _ (Nat.two_pow_pos i)]
      · rw [Nat.pow_div hi (by decide)]
    have hb : Builtin.Int.intBits (n : Int) = (52 - i) + 1 := by
      apply bits
      · refine Nat.le_of_mul_le_mul_left (?_ : 2 ^ i * 2 ^ (52 - i) ≤ 2 ^ i * n) (Nat.two_pow_pos i)
        rw [← hn, ← Nat.pow_add, show i + (52 - i) = 52 by (first | grind | omega)]; exact q1
      · refine Nat.lt_of_mul_lt_mul_left (a := 2 ^ i) ?_
        rw [← hn, ← Nat.pow_add, show i + (52 - i + 1) = 53 by (first | grind | omega)]; exact q2
    refine ⟨n, _, -(i : Int), 0, 1074 - k, i, hr, by rw [hb]; (first | grind | omega), by lia, ?_, ?_, by rw [hn, Nat.pow_zero, Nat.mul_one, Nat.mul_comm], ?_, ?_, ?_, by lia, by (first | grind | omega), ?_, by (clear hb hr hi52 hqp hn eg hi hl bits hk q2 q1; omega)⟩
    · have : (if 0 > -(i : Int) then (0 : Int) else -(i : Int)).toNat = 0 := by split <;> (first | grind | omega)
      rw [this]; rfl
    · have : (if 0 > -(-(i : Int)) then (0 : Int) else -(-(i : Int))).toNat = i := by split <;> (first | grind | omega)
      rw [this]; exact (pow_cast i).symm
    · rw [← Nat.pow_add]; congr 1; (clear hb hr hi52 hqp hn eg bits hk q2 q1; omega)
    · rw [Nat.pow_zero, Nat.one_mul, ← Nat.pow_add]; congr 1; lia
    · exact Nat.lt_of_le_of_lt (Nat.le_of_dvd hqp ⟨2 ^ i, by rw [Nat.mul_comm]; exact hn⟩) (Nat.lt_of_lt_of_le q2 (Nat.pow_le_pow_right (by decide) (by decide)))
    · exact Nat.pow_lt_pow_right (by decide) (by (clear hb hr hi52 hqp hn eg hl bits hk q2 q1; omega))
  · have hr : Float64.ratio q ((k : Int) - 1074) = (q * 2 ^ (k - 1074), 1) := by
      unfold Float64.ratio shift
      rw [if_pos (by lia)]
      have e : ((k : Int) - 1074).toNat = k - 1074 := by (clear hg bits hk q2 q1; lia)
      simp only [e, Nat.gcd_one_right, Nat.div_one]
    have hb : Builtin.Int.intBits ((q * 2 ^ (k - 1074) : Nat) : Int) = (52 + (k - 1074)) + 1 := by
      apply bits
      · rw [Nat.pow_add]; exact Nat.mul_le_mul_right _ q1
      · rw [show 52 + (k - 1074) + 1 = 53 + (k - 1074) by (first | grind | omega), Nat.pow_add]; exact Nat.mul_lt_mul_of_pos_right q2 (Nat.two_pow_pos _)
    refine ⟨_, _, ((k - 1074 : Nat) : Int), k - 1074, 0, 0, hr, by rw [hb]; (first | grind | omega), by (first | grind | omega), ?_, ?_, by rw [Nat.pow_zero, Nat.mul_one], by rw [Nat.pow_zero], ?_, ?_, by (first | grind | omega), by (clear hb hr hg bits q2 q1; omega), ?_, by omega⟩
    · have : (if 0 > ((k - 1074 : Nat) : Int) then (0 : Int) else ((k - 1074 : Nat) : Int)).toNat = k - 1074 := by split <;> lia
      rw [this]; exact (pow_cast _).symm
    · have : (if 0 > -((k - 1074 : Nat) : Int) then (0 : Int) else -((k - 1074 : Nat) : Int)).toNat = 0 := by split <;> lia
      rw [this]; rfl
    · rw [Nat.pow_zero, Nat.mul_one, ← Nat.pow_add]; congr 1; (first | grind | omega)
    · refine Nat.lt_of_lt_of_le (Nat.mul_lt_mul_of_pos_right q2 (Nat.two_pow_pos _)) ?_
      rw [← Nat.pow_add]; exact Nat.pow_le_pow_right (by decide) (by (clear hb hr hg bits q2 q1; omega))
    · exact Nat.one_lt_two_pow (by decide)
end Mine
end
theorem Mine.anewNc : True := by
  w_top off
  exact trivial
section
open PySem PySem.W PyProof.Rows
set_option Elab.async false
set_option maxRecDepth 100000
set_option exponentiation.threshold 6000
set_option linter.unusedVariables false
namespace Mine
open Float64
theorem test_parts {q k W D : Nat} (h : NearC q k W D) (hD : 0 < D) {o u St Bt P : Nat} (hP : 0 < P) (hu : 0 < u) (hB : 0 < Bt) (hSB : St * P = 2 ^ k * Bt) (hv : o * P * D = W * u) :
    ((q : Int).fmod 2 = 0 → (4 * (q : Int) - (if (q : Int) = 2 ^ 52 then 1 else 2)) * (St : Int) * (u : Int) ≤ (o : Int) * 4 * (Bt : Int) ∧ (o : Int) * 4 * (Bt : Int) ≤ (4 * (q : Int) + 2) * (St : Int) * (u : Int)) ∧
     (¬ (q : Int).fmod 2 = 0 → (4 * (q : Int) - (if (q : Int) = 2 ^ 52 then 1 else 2)) * (St : Int) * (u : Int) < (o : Int) * 4 * (Bt : Int) ∧ (o : Int) * 4 * (Bt : Int) < (4 * (q : Int) + 2) * (St : Int) * (u : Int)) := by
  have q1 := h.lo
  have q2 := h.hi
  have ec : (4 * (q : Int) - (if (q : Int) = 2 ^ 52 then 1 else 2)) = ((4 * q - (if q = 2 ^ 52 then 1 else 2) : Nat) : Int) := by
    by_cases hq : q = 2 ^ 52
    · rw [if_pos hq, if_pos (by grind)]; (first | lia | omega)
    · rw [if_neg hq, if_neg (by (clear q2 q1 hv hSB hB hu hP hD h; grind))]; (clear hq q2 hv hSB hB hu hP hD h; lia)
  have eu : (4 * (q : Int) + 2) = ((4 * q + 2 : Nat) : Int) := by (first | lia | omega)
  have em : (q : Int).fmod 2 = ((q % 2 : Nat) : Int) := by
    rw [Int.fmod_eq_emod_of_nonneg _ (by decide)]; (first | lia | omega)
  have lo : ∀ c : Nat, c ≤ 4 * q → (4 * q * 2 ^ k * D ≤ 4 * W + c * 2 ^ k * D → (4 * q - c) * 2 ^ k * D ≤ 4 * W) ∧ (4 * q * 2 ^ k * D < 4 * W + c * 2 ^ k * D → (4 * q - c) * 2 ^ k * D < 4 * W ∨ False) := by
    intro c hc
    have e : (4 * q - c) * 2 ^ k * D + c * 2 ^ k * D = 4 * q * 2 ^ k * D := by
      rw [← Nat.add_mul, ← Nat.add_mul, Nat.sub_add_cancel hc]
    generalize (4 * q - c) * 2 ^ k * D = A at *
    generalize c * 2 ^ k * D = B at *
    generalize 4 * q * 2 ^ k * D = C at *
    exact ⟨fun h => by (first | lia | omega), fun h => by (first | lia | omega)⟩
  have hc : (if q = 2 ^ 52 then 1 else 2) ≤ 4 * q := by split <;> (first | lia | omega)
  rw [ec, eu, em]
  have hE := h.even
  have hO := h.odd
  generalize (if q = 2 ^ 52 then 1 else 2) = c at *
  refine ⟨fun he => ?_, fun ho => ?_⟩
  · obtain ⟨a, b⟩ := hE (by (clear hO hE hc ec lo em eu q2 q1 hv hSB hB hu hP hD h; grind))
    refine ⟨?_, ?_⟩
    · exact_mod_cast cross_lo hP hD hSB hv ((lo _ hc).1 a)
    · exact_mod_cast cross_hi hP hD hSB hv b
  · obtain ⟨a, b⟩ := hO (by (clear hO hE hc ec lo em eu q2 q1 hv hSB hB hu hP hD h; grind))
    refine ⟨?_, ?_⟩
    · exact_mod_cast cross_lo' hP hD hu hB hSB hv (((lo _ hc).2 a).elim id False.elim)
    · exact_mod_cast cross_hi' hP hD hu hB hSB hv b
theorem sgn_lt {neg : Bool} {n : Nat} (hn : 0 < n) : decide (0 < sgn neg n) = !neg ∧ sgn neg n ≠ 0 := by
  unfold sgn
  cases neg
  · simp; (first | grind | omega)
  · simp; (first | grind | omega)
/-- a float that lies nearest to a quotient passes the law's test -/
theorem near_of {x : UInt64} {neg : Bool} {q k W D : Nat} {o u : Int} (h : NearC q k W D) (hx : Fl x (sgn neg (q * 2 ^ k))) (hD : 0 < D) (hv : o.natAbs * 2 ^ 1074 * D = W * u.natAbs) (ho : o ≠ 0) (hu : u ≠ 0)
    (hs : neg = (decide (o < 0) != decide (u < 0))) (bo : o.natAbs < 2 ^ 5000) (bu : u.natAbs < 2 ^ 5000) : NearB x o u := by
  obtain ⟨⟨a, m, e, hd⟩, hval⟩ := hx
  have hq := val_natAbs hd
  rw [hval, sgn_natAbs] at hq
  obtain ⟨m2, m1, e1⟩ := decode_shape hd
  have e0 := decode_ge hd
  obtain ⟨rfl, hk⟩ := same_form hq h.lo h.hi m2 (m1.imp id fun z => by (first | lia | omega))
  have hke : e = (k : Int) - 1074 := by (first | lia | omega)
  subst hke
  have hk2 : k ≤ 2045 := by (clear hq hk e0 m1 hd hval h m2 bu bo hs hu ho hv hD; lia)
  have hpos : 0 < m * 2 ^ k := Nat.mul_pos (by have := h.lo; (first | lia | omega)) (Nat.two_pow_pos k)
  obtain ⟨s1, s2⟩ := sgn_lt (neg := neg) hpos
  have hc := cmpInt_right hd 0
  rw [hval, Int.zero_mul] at hc
  refine .inr ⟨ho, ?_, ?_, m, _, decode_abs hd, ?_⟩
  · rw [hc]
    have : compare (sgn neg (m * 2 ^ k)) 0 ≠ .eq := fun z => s2 (Int.compare_eq_eq.mp z)
    revert this
    cases compare (sgn neg (m * 2 ^ k)) 0 <;> simp
  · rw [hc]
    have e1 : (some (compare (sgn neg (m * 2 ^ k)) 0) == some Ordering.gt) = decide (0 < sgn neg (m * 2 ^ k)) := by
      have h1 : compare (sgn neg (m * 2 ^ k)) 0 = .gt ↔ 0 < sgn neg (m * 2 ^ k) := Int.compare_eq_gt
      by_cases z : 0 < sgn neg (m * 2 ^ k)
      · rw [h1.mpr z, decide_eq_true z]; rfl
      · rw [decide_eq_false z]
        have h2 : compare (sgn neg (m * 2 ^ k)) 0 ≠ .gt := fun q => z (h1.mp q)
        revert h2
        cases compare (sgn neg (m * 2 ^ k)) 0 <;> simp
    rw [e1, s1, hs]
    by_cases u1 : u < 0
    · rw [if_pos u1, decide_eq_true u1]
      by_cases o1 : o < 0
      · rw [decide_eq_true o1, decide_eq_true (by (clear u1 e1 hc s2 s1 hpos hk2 hq hk e0 m1 hd hval h m2 bu bo hs hu ho hv hD; lia))]; rfl
      · rw [decide_eq_false o1, decide_eq_false (by (clear u1 e1 hc s2 s1 hpos hk2 hq hk e0 m1 hd hval h m2 bu bo hs hu ho hv hD; lia))]; rfl
    · rw [if_neg u1, decide_eq_false u1]
      by_cases o1 : o < 0
      · rw [decide_eq_true o1, decide_eq_false (by (first | lia | omega))]; rfl
      · rw [decide_eq_false o1, decide_eq_true (by (clear u1 e1 hc s2 s1 hpos hk2 hq hk e0 m1 hd hval h m2 bu bo hs hu hv hD; lia))]; rfl
  · obtain ⟨n, d, sp, S, B, P, hr, p1, p2, p3, p4, p5, p6, p7, p8, p9, p10, p11, p12⟩ := ratio_parts h.lo h.hi hk2
    have big : ∀ {a b : Nat}, a < 2 ^ b → b ≤ 5000 → a < 2 ^ 5000 := fun h1 h2 => Nat.lt_of_lt_of_le h1 (Nat.pow_le_pow_right (by decide) h2)
    have pw : ∀ {b : Nat}, b ≤ 3000 → (2 : Nat) ^ b < 2 ^ 5000 := fun h1 => Nat.pow_lt_pow_right (by decide) (by (first | lia | omega))
    refine ⟨h.lo, h.hi, ⟨sp, ((2 ^ S : Nat) : Int), ((2 ^ P : Nat) : Int), ((2 ^ B : Nat) : Int), ?_, p2, p3, p4, ?_, ?_, ?_, ?_, ?_, ?_, ?_, ?_, ?_⟩, by rw [Int.natAbs_natCast]; exact bu, bo⟩
    · rw [hr]; exact p1
    · rw [hr]; show (n : Int) * _ = _; exact_mod_cast p5
    · have := Nat.two_pow_pos S; (clear pw big p12 p11 p10 p9 p8 p7 p6 p5 p4 p3 p2 p1 hr hc s2 s1 hpos hk2 hq hk e0 e1 m1 hd hval h m2 bu bo hs hu ho hv hD; omega)
    · rw [hr]; exact_mod_cast p6
    · rw [hr]; show (n : Int).natAbs < _; rw [Int.natAbs_natCast]; exact big p8 (by decide)
    · rw [Int.natAbs_natCast]; exact pw p9
    · rw [Int.natAbs_natCast]; exact pw p10
    · rw [hr]; show ((d : Nat) : Int).natAbs < _; rw [Int.natAbs_natCast]; exact big p11 (by decide)
    · rw [Int.natAbs_natCast]; exact pw p12
    · exact test_parts h hD (Nat.two_pow_pos 1074) (by (clear pw big p12 p11 p10 p9 p8 p7 p6 p5 p4 p3 p2 p1 hr hc s2 s1 hpos hk2 hq hk e0 m1 hd hval h m2 bo hs ho hv hD; lia)) (Nat.two_pow_pos B) p7 hv
/-- nought over a number passes the law's test -/
theorem near_zero {x : UInt64} {u : Int} (hx : Fl x 0) : NearB x 0 u := by
  obtain ⟨⟨a, m, e, hd⟩, hval⟩ := hx
  have hc := cmpInt_right hd 0
  rw [hval] at hc
  refine .inl ⟨rfl, ?_⟩
  rw [hc, Int.zero_mul]
  rfl
end Mine
end
theorem Mine.anewE1 : True := by
  w_top off
  exact trivial
section
open PySem PySem.W PySem.Calls PyProof.Rows
open AutoSeq1 (wpAny_loadPart')
set_option Elab.async false
set_option maxRecDepth 100000
set_option linter.unusedVariables false
namespace Mine

/-- a source of items, its turns counted from one -/
theorem draws_shift {prog : Program} {w : World} {A : Around} {it : Addr} {fp : List Addr} {n : Nat} {P : Nat → Value → Prop} {St : Nat → Heap → Prop} (D : Draws prog w A it fp n P St) :
    Draws prog w A it fp (n + 1) (fun i v => P (i - 1) v) (fun i h => 1 ≤ i ∧ St (i - 1) h) where
  live := fun i h st => D.live _ h st.2
  frame := fun i h h' st hk => ⟨st.1, D.frame _ h h' st.2 hk⟩
  item := fun i s Q E hi st hQ => D.item (i - 1) s Q E (by have := st.1; omega) st.2 fun x h' tk hP hst hs => hQ x h' tk hP ⟨Nat.succ_le_succ (Nat.zero_le i), by
    have e : i - 1 + 1 = i + 1 - 1 := by have := st.1; lia
    rw [← e]; exact hst⟩ hs
  done := fun s Q E st hE => D.done s Q E st.2 hE

section
variable {prog : Program} {w : World} {A : Around} {E : Value → Shared → Prop} {s : Shared}

/-- a builtin class called with names -/
theorem callKw_new {T newId : String} {Bn : Builtin} {a : Value} {args : List Value} {kw : List (Str × Value)} {S : PySem.Spec} {Q : Value → Shared → Prop} (ft : TypeCalled T newId "object.__init__")
    (hne : (some newId != some "object.__new__") = true) (hct : checkTypeCall T ⟨a :: args, kw⟩ = pure ()) (hcn : checkBuiltinCall newId ⟨.type T :: a :: args, kw⟩ = pure ())
    (hok : ∀ obj, argsOk "object.__init__" ⟨obj :: a :: args, kw⟩) (entryN : entryFor table newId = some Bn) (g : Meets (Bn ⟨.type T :: a :: args, kw⟩) S)
    (h : S A.in1 (wants (fun obj s₁ => s₁.TypeIs obj T ∧ Q obj s₁) E) s) : wpAny (model prog w) A (call (.type T) (a :: args) kw) Q E s := by
  obtain ⟨c, tl, hmro⟩ := ft.mro
  have hmade := ft.made
  have hsub := ft.sub
  refine wpAny_call (codeAny_of_tree ?_)
  show wpAny _ _ (callAny (.type T) _) _ _ _
  refine wpAny_pure ⟨Code.quiet_builtin _ (by decide +kernel), codeAny_builtin F.entry_type_call ?_⟩
  rw [Around.under_plain (weight_type_call_type T (a :: args) kw) (units_type_call_type T (a :: args) kw)]
  have h1 := ft.notType
  have h2 := ft.canCreate
  repeat (any_goals (first | assumption | wp_step))
  refine codeAny_mono (codeAny_call_builtin ft.plain entryN (wpAny_of_eq hcn (g prog w A.in1 _ s h))) fun r s₁ hr => ?_
  cases r with
  | error e => exact hr
  | ok fl =>
    cases fl with
    | ret obj =>
      have hT : s₁.TypeIs obj T := hr.1
      have hok := hok obj
      have hli := ft.init.lookup
      have hbi := ft.init.bind obj
      have gi : Meets (Builtin.«object.__init__» ⟨obj :: a :: args, kw⟩) (fun _ R s => s.TypeIs obj T ∧ R (.ok (.ret .none)) s) := by
        refine Meets.of_wp fun prog w A R s hs => ?_
        obtain ⟨hT, hq⟩ := hs
        have hl := hli
        have hm := ft.made
        repeat (any_goals (first | assumption | wp_step))
        exact ⟨_, rfl, hq⟩
      repeat (any_goals (first | assumption | wp_step))
      refine codeAny_mono (codeAny_call_builtin ft.init.plain F.entry_object_init (ft.init.check _ _ _ _ _ _ _ _ hT hok (gi prog w A.in1 (wants (fun r s₂ => r = .none ∧ Q obj s₂) E) s₁ ⟨hT, rfl, hr.2⟩))) fun r₂ s₂ hr₂ => ?_
      cases r₂ with
      | error e => exact hr₂
      | ok fl₂ =>
        cases fl₂ with
        | ret r =>
          obtain ⟨rfl, hq⟩ := hr₂
          repeat (any_goals (first | assumption | wp_step))
        | _ => exact hr₂.elim
    | _ => exact hr.elim

theorem start_typeCall (a b : Value) : checkTypeCall "enumerate" ⟨[a], [("start", b)]⟩ = pure () := by kernel_rfl
theorem start_newCall (a b : Value) : checkBuiltinCall "enumerate.__new__" ⟨[.type "enumerate", a], [("start", b)]⟩ = pure () := by kernel_rfl
theorem start_init (obj a b : Value) : argsOk "object.__init__" ⟨[obj, a], [("start", b)]⟩ := by unfold argsOk; kernel_rfl
abbrev enumObj (I : Addr) (i : Int) : Obj := { cls := .type "enumerate", data := .fields #[.none, .bool false, .ref I, rawInt i, .none, .none] }

theorem start_new (I l : Addr) (i : Nat) (t : Tok) :
    Meets (Builtin.«enumerate.__new__» ⟨[.type "enumerate", .ref I], [("start", .int 1 t)]⟩) (fun _ R s => s.heap.IsListIter I l i ∧
      R (.ok (.ret (.ref s.heap.objs.size))) { s with heap := s.heap.push (enumObj I 1) }) :=
  .of_wp fun prog w A R s h => by
    obtain ⟨hp, g, d, tk, os⟩ := s; obtain ⟨hl, h⟩ := h
    have hsub := sub_enumerate
    have hL : Heap.IsListIter (Shared.heap ⟨hp, g, d, tk, os⟩) I l i := hl
    obtain ⟨oI, hoI, hcI, hdI⟩ := id hl
    wp_walk using wpAny_loadPart' hoI, wpAny_pyIter_listiter hL
    refine wpAny_stack_any fun st => wpAny_pure ?_
    split
    · rename_i c _ _ _ _ _
      cases (c == Value.type "enumerate")
      · refine wpAny_bind (wpAny_of_eq (a := (Value.ref I, some (Value.int 1 t))) (by kernel_rfl) ?_)
        wp_walk using wpAny_loadPart' hoI, wpAny_pyIter_listiter hL
        exact ⟨_, rfl, h⟩
      · wp_walk using wpAny_loadPart' hoI, wpAny_pyIter_listiter hL
        exact ⟨_, rfl, h⟩
    · refine wpAny_bind (wpAny_of_eq (a := (Value.ref I, some (Value.int 1 t))) (by kernel_rfl) ?_)
      wp_walk using wpAny_loadPart' hoI, wpAny_pyIter_listiter hL
      exact ⟨_, rfl, h⟩

theorem call_enum_start {I l : Addr} {i : Nat} {t : Tok} {Q : Value → Shared → Prop} (hI : s.heap.IsListIter I l i)
    (h : Q (.ref s.heap.objs.size) { s with heap := s.heap.push (enumObj I 1) }) :
    wpAny (model prog w) A (call (.type "enumerate") [.ref I] [("start", .int 1 t)]) Q E s :=
  callKw_new F.called_enumerate (by decide) (start_typeCall _ _) (start_newCall _ _) (fun obj => start_init obj _ _) F.entry_enumerate_new (start_new I l i t) ⟨hI, ⟨_, Heap.get?_push_size _ rfl, rfl⟩, h⟩
end
end Mine
end
theorem Mine.anewE2 : True := by
  w_top off
  exact trivial
section
open PySem PySem.W PySem.Calls PyProof.Rows
set_option Elab.async false
set_option maxRecDepth 100000
set_option linter.unusedVariables false
namespace Mine

theorem store_free {M : Model} {A : Around} {E : Value → Shared → Prop} {s : Shared} {env : Env} {name : Str} {c : Addr} {v₀ : Option Value} {v : Value} {Q : Unit → Shared → Prop} (hk : env.scope.kind = .function) (hl : env.kindOf name = some .free)
    (hc : env.cells.lookup name = some c) (hv : s.heap.IsCell c v₀) (h : ∀ h', h'.IsCell c (some v) → Heap.SameBut c s.heap h' → Q () { s with heap := h' }) : wpAny M A (storeName env name v) Q E s := by
  unfold storeName
  simp only [hl, hk]
  exact wpAny_bind (wpAny_cellOf hc (wpAny_cellSet hv h))

/-- what a woken generator may have changed: its own things, and enumerate's that are younger than it -/
def Since (B0 : Addr) (wr : List Addr) (s₀ s : Shared) : Prop :=
  ∃ h' tk, s = { s₀ with heap := h', toks := tk } ∧ ∀ b o, b ∉ wr → (b < B0 ∨ o.cls ≠ .type "enumerate") → s₀.heap.get? b = some o → h'.get? b = some o
theorem Since.refl {B0 : Addr} {wr : List Addr} (s : Shared) : Since B0 wr s s := ⟨s.heap, s.toks, rfl, fun _ _ _ _ e => e⟩
theorem Since.step {B0 : Addr} {wr : List Addr} {s₀ s : Shared} (x : Since B0 wr s₀ s) {h' : Heap} {tk : Nat} (hk : ∀ b o, b ∉ wr → (b < B0 ∨ o.cls ≠ .type "enumerate") → s.heap.get? b = some o → h'.get? b = some o) :
    Since B0 wr s₀ { s with heap := h', toks := tk } := by
  obtain ⟨h₁, tk₁, rfl, hk₁⟩ := x
  exact ⟨h', tk, rfl, fun b o hw hc e => hk b o hw hc (hk₁ b o hw hc e)⟩

def CellInt (h : Heap) (c : Addr) (k : Int) : Prop := ∃ t, h.IsCell c (some (.int k t))
theorem CellInt.at {h h' : Heap} {c : Addr} {k : Int} (x : CellInt h c k) (e : ∀ o, h.get? c = some o → h'.get? c = some o) : CellInt h' c k := let ⟨t, o, ho, hd⟩ := x; ⟨t, o, e _ ho, hd⟩

def cntProto (B0 : Addr) (wr : List Addr) (n₀ : Nat) (P : Nat → Value → Prop) : Protocol := fun m s₀ v s kap =>
  P (n₀ - 1 - m) v ∧ Since B0 wr s₀ s ∧ ∀ s'' : Shared, (∀ b o, s.heap.get? b = some o → s''.heap.get? b = some o) → kap (.send .none) s''
def cntEnd (B0 : Addr) (wr : List Addr) (cN : Addr) (n₀ : Nat) : GenEnd := fun n s₀ r s₁ => r = .ok (.ret .none) ∧ n = 0 ∧ Since B0 wr s₀ s₁ ∧ CellInt s₁.heap cN n₀

section
variable {prog : Program} {w : World} {A : Around}

/-- the loop of a generator that counts -/
theorem seg_cnt {env : Env} {xa xb : Str} {pa pb pt : Pos} {kt : Nat} {py pe px : Pos} {e I l cN B0 : Addr} {items : Array Value} {fs : List Frame}
    (hh : ∀ c : Code, (A.over c fs).handled = none) (hfs : splitAtGen fs = none) (hfg : fs.any Frame.guarded = false)
    (hk : env.scope.kind = .function) (hxa : env.kindOf xa = some .free) (hca : env.cells.lookup xa = some cN) (hxb : env.kindOf xb = some .local) (hxb2 : (xb == ("__debug__" : Str)) = false) (hco : env.scope.isCoroutine = false) (hint : interactive env = false)
    (heI : e ≠ I) (hle : l ≠ e) (hlI : l ≠ I) (hCe : env.locals ≠ e) (hCI : env.locals ≠ I) (hCl : env.locals ≠ l) (hCN : env.locals ≠ cN) (hNe : cN ≠ e) (hNI : cN ≠ I) (hNl : cN ≠ l) (hB : B0 ≤ e)
    (hend : ∀ (s₀ s : Shared) (c : Code), Since B0 [env.locals, cN, I] s₀ s → CellInt s.heap cN items.size → Seg (model prog w) A (cntEnd B0 [env.locals, cN, I] cN items.size) (cntProto B0 [env.locals, cN, I] items.size (fun i v => items[i]? = some v)) 0 s₀ c (leafOf (.ok .next)) fs s) :
    ∀ (k i : Nat) (s₀ s : Shared) (m : Str → Option Value), items.size - i = k → i ≤ items.size → (∃ old, IsEnum s.heap e I ((i + 1 : Nat) : Int) old) → s.heap.IsListIter I l i → s.heap.IsList l items → s.heap.Ns env.locals m → CellInt s.heap cN i → Since B0 [env.locals, cN, I] s₀ s →
      Seg (model prog w) A (cntEnd B0 [env.locals, cN, I] cN items.size) (cntProto B0 [env.locals, cN, I] items.size (fun i v => items[i]? = some v)) (items.size - i) s₀
        (.forLoop (.Tuple [.Name xa pa, .Name xb pb] kt pt) (.ref e) [.Expr (.Yield (some (.Name xb px)) py) pe] [] env)
        ((model prog w).den (.forLoop (.Tuple [.Name xa pa, .Name xb pb] kt pt) (.ref e) [.Expr (.Yield (some (.Name xb px)) py) pe] [] env)) fs s := by
  have W : ∀ A' : Around, A'.handled = none → WalksT prog w A' e _ _ _ _ _ _ := fun A' hA => WalksT.enumerateD (prog := prog) (w := w) (A := A') (draws_shift (Draws.list (A := A'.in1) hA I l hlI items)) e heI (by simp [heI, Ne.symm hle]) (by first | ((repeat (first | exact List.mem_cons_self | apply List.mem_cons_of_mem)); done) | simp)
  have keep : ∀ {h h' : Heap}, (∀ b o, b ∉ [e, I] → h.get? b = some o → h'.get? b = some o) → ∀ b o, b ∉ [env.locals, cN, I] → (b < B0 ∨ o.cls ≠ .type "enumerate") → (∃ old i, IsEnum h e I i old) → h.get? b = some o → h'.get? b = some o := fun {h h'} hk' b o hb hc he x => by
    refine hk' b o (fun q => ?_) x
    rcases List.mem_cons.mp q with rfl | q
    · rcases hc with hc | hc
      · exact absurd (Nat.lt_of_lt_of_le hc hB) (Nat.lt_irrefl _)
      · obtain ⟨old, i, he⟩ := he
        rw [he] at x; cases x
        exact hc rfl
    · exact hb (by rw [List.mem_singleton.mp q]; simp)
  intro k
  induction k with
  | zero =>
    intro i s₀ s m hk0 hi he hit hl hn hc hsince
    have hin : i = items.size := by omega
    subst hin
    rw [Nat.sub_self]
    show Seg _ A _ _ _ s₀ _ ((forTurn (.Tuple [.Name xa pa, .Name xb pb] kt pt) (.ref e) [.Expr (.Yield (some (.Name xb px)) py) pe] [] env).onRaise (fun x => do noteFrame x env; theTreesLotGoes x)) fs s
    unfold forTurn
    rw [Sem.onRaise_eq_wrap]
    refine seg_bind_wrap (wpAny_standAt ?_)
    refine seg_bind_wrap (wpAny_onRaise ((W _ (hh _)).done s _ _ ⟨he, Nat.succ_le_succ (Nat.zero_le _), hit, hl⟩ fun h' tk hk' => ?_))
    refine seg_again rfl ?_
    show Seg _ A _ _ _ s₀ _ (((execs [] env).onRaise (fun x => do noteFrame x env; theTreesLotGoes x)) >>= fun f => pure (.done f)) fs _
    have st : Since B0 [env.locals, cN, I] s₀ { s with heap := h', toks := tk } := hsince.step fun b o hb hcl x => keep hk' b o hb hcl (let ⟨old, x⟩ := he; ⟨old, _, x⟩) x
    exact hend s₀ _ _ st (hc.at fun o x => hk' cN o (by simp [hNe, hNI]) x)
  | succ k ih =>
    intro i s₀ s m hk0 hi he hit hl hn hc hsince
    have hlt : i < items.size := by omega
    obtain ⟨t, hcN⟩ := hc
    show Seg _ A _ _ _ s₀ _ ((forTurn (.Tuple [.Name xa pa, .Name xb pb] kt pt) (.ref e) [.Expr (.Yield (some (.Name xb px)) py) pe] [] env).onRaise (fun x => do noteFrame x env; theTreesLotGoes x)) fs s
    unfold forTurn
    rw [Sem.onRaise_eq_wrap]
    refine seg_bind_wrap (wpAny_standAt ?_)
    refine seg_bind_wrap (wpAny_onRaise ((W _ (hh _)).item (i + 1) s _ _ (by omega) ⟨he, Nat.succ_le_succ (Nat.zero_le _), hit, hl⟩ fun T vals h₁ tk₁ hP hge hT₁ hmid hk₁ => ?_))
    obtain ⟨ti, v, hv, rfl⟩ := hP
    rw [Nat.add_sub_cancel] at hv
    refine seg_bind_wrap ((W _ (hh _)).go _ _ _ (i + 1) T _ _ _ hmid fun h₂ hst₂ hk₂ => ?_)
    have hT₂ : h₂.IsTuple T #[.int ((i + 1 : Nat) : Int) ti, v] := let ⟨o, x, r⟩ := hT₁; ⟨o, hk₂ _ o ((W _ (hh default)).apart (i + 1) T _ hmid) x, r⟩
    refine seg_bind_wrap (wpAny_assign_Tuple (hh _) hT₂ rfl rfl fun h₃ hx₃ => ?_)
    replace hx₃ : Heap.ExtBut h₂.objs.size h₂ h₃ := hx₃
    have old₃ : ∀ b o, h₂.get? b = some o → h₃.get? b = some o := fun b o x => hx₃ b o (Nat.ne_of_lt (Heap.lt_size x)) x
    have k3 : ∀ b o, b ∉ [e, I] → s.heap.get? b = some o → h₃.get? b = some o := fun b o hb x => old₃ b o (hk₂ b o hb (hk₁ b o hb x))
    show wpAny _ _ (do holding [v] (assign (.Name xa pa) env (.int ((i + 1 : Nat) : Int) ti)); do holding [] (assign (.Name xb pb) env v); pure ()) _ _ _
    have hcN3 : h₃.IsCell cN (some (.int i t)) := let ⟨o, ho, hd⟩ := hcN; ⟨o, k3 cN o (by simp [hNe, hNI]) ho, hd⟩
    refine wpAny_bind (wpAny_holding (wpAny_assign_Name (store_free hk hxa hca hcN3 fun h₄ hcN4 hs₄ => ?_)))
    replace hs₄ : Heap.SameBut cN h₃ h₄ := hs₄
    have hn4 : h₄.Ns env.locals m := hn.at' fun o x => hs₄.extBut _ o hCN (k3 _ o (by simp [hCe, hCI]) x)
    refine wpAny_bind (wpAny_holding (wpAny_assign_Name (wpAny_storeName_local hxb hn4 (fun h₅ hn₅ hs₅ => wpAny_pure ?_) (by rw [hk]; rfl))))
    replace hs₅ : Heap.SameBut env.locals h₄ h₅ := hs₅
    have up : ∀ b o, b ≠ env.locals → b ≠ cN → h₃.get? b = some o → h₅.get? b = some o := fun b o hC hN x => hs₅.extBut b o hC (hs₄.extBut b o hN x)
    have he5 : ∃ old, IsEnum h₅ e I ((i + 1 + 1 : Nat) : Int) old := by
      obtain ⟨⟨old, x⟩, _⟩ := hst₂
      exact ⟨old, up _ _ (Ne.symm hCe) (Ne.symm hNe) (old₃ _ _ x)⟩
    have hit5 : h₅.IsListIter I l (i + 1) := by
      have := hst₂.2.2.1
      rw [Nat.add_sub_cancel] at this
      exact this.at fun o x => up I o (Ne.symm hCI) (Ne.symm hNI) (old₃ _ _ x)
    have hl5 : h₅.IsList l items := hst₂.2.2.2.at fun o x => up l o (Ne.symm hCl) (Ne.symm hNl) (old₃ _ _ x)
    have hc5 : CellInt h₅ cN ((i + 1 : Nat) : Int) := let ⟨o, ho, hd⟩ := hcN4; ⟨ti, o, hs₅.extBut _ o (Ne.symm hCN) ho, hd⟩
    have since5 : ∀ tk, Since B0 [env.locals, cN, I] s₀ { s with heap := h₅, toks := tk } := fun tk => hsince.step fun b o hb hcl x => by
      have hbl : b ≠ env.locals := fun q => hb (by rw [q]; simp)
      have hbN : b ≠ cN := fun q => hb (by rw [q]; simp)
      refine up b o hbl hbN (k3 b o (fun q => ?_) x)
      rcases List.mem_cons.mp q with rfl | q
      · obtain ⟨old, he⟩ := he
        rcases hcl with hcl | hcl
        · exact absurd (Nat.lt_of_lt_of_le hcl hB) (Nat.lt_irrefl _)
        · rw [he] at x; cases x; exact hcl rfl
      · exact hb (by rw [List.mem_singleton.mp q]; simp)
    obtain ⟨r, hr⟩ : ∃ r, items.size - i = r + 1 := ⟨items.size - i - 1, by omega⟩
    rw [hr]
    rw [Sem.bind_eq_wrap', Sem.wrap_wrap]
    refine seg_execs_cons (seg_Expr_Yield hfs rfl hfg (wpAny_Name (wpAny_loadName_local (v := v) hk hxb hn₅ (if_pos rfl) ?_) hxb2) hco hint)
    intro kap hkap
    have hidx : items.size - 1 - r = i := by omega
    refine ⟨by rw [hidx]; exact hv, since5 _, fun s'' hal => hkap _ _ ?_⟩
    show Seg _ A _ _ _ _ _ _ fs s''
    refine seg_execs_nil (seg_again rfl ?_)
    have hr2 : r = items.size - (i + 1) := by omega
    rw [hr2]
    exact ih (i + 1) s'' s'' _ (by omega) hlt (let ⟨old, x⟩ := he5; ⟨old, hal _ _ x⟩) (hit5.at fun o x => hal _ _ x) (hl5.at fun o x => hal _ _ x) (hn₅.at' fun o x => hal _ _ x) (hc5.at fun o x => hal _ _ x) (Since.refl _)
end
end Mine
end
theorem Mine.anewE3 : True := by
  w_top off
  exact trivial
section
open PySem PySem.W PySem.Calls PyProof.Rows
set_option Elab.async false
set_option maxRecDepth 100000
set_option linter.unusedVariables false
namespace Mine

theorem callWith_type_kw {M : Model} {A : Around} {E : Value → Shared → Prop} {s : Shared} {pos : Pos} {T : String} {first : List Value} {args : List (Bool × Sem Value)} {keywords : List (Option Str × Sem Value)} {Q : Value → Shared → Prop}
    (hplain : args.any (·.1) = false) (hkw : keywords.any (·.1.isNone) = false)
    (h : wpAny M A (evalArgs (.type T) true args keywords) (fun a s₁ => wpAny M A (call (.type T) (first ++ a.pos) a.kw) Q E s₁) E s) :
    wpAny M A (callWith pos (.type T) first args keywords) Q E s := by
  unfold callWith
  refine wpAny_bind (wpAny_holding (wpAny_mono h (fun a s₁ h₁ => wpAny_bind (wpAny_standAt ?_)) fun _ _ x => x))
  simp only [hplain, hkw, Bool.or_false]
  refine wpAny_bind (wpAny_pure ?_)
  exact wpAny_bind (wpAny_mono h₁ (fun r s₂ hr => wpAny_bind (wpAny_holding (wpAny_point (wpAny_pure hr)))) fun _ _ x => x)

theorem const_int {M : Model} {A : Around} {E : Value → Shared → Prop} {s : Shared} {env : Env} {i : Int} {k : Nat} {pos : Pos} {Q : Value → Shared → Prop} (h : Q (.int i s.toks) { s with toks := s.toks + 1 }) : wpAny M A (eval (.Constant (.int i) k pos) env) Q E s := fun _ _ _ => h
section
variable {prog : Program} {w : World} {A : Around} {s : Shared}

theorem seg_count {cs : Scope} {cn : Str} {f C cN I l B0 : Addr} {ccd : Value} {items : Array Value} {kt kc : Nat} {pn pf pa pb pt py pe px q1 q2 q3 q4 q5 : Pos} {Kf : Frag} {p : Program} {loose : List Str} {mg mb : Str → Option Value} {g : Heap} {m : Str → Option Value} {nl : List Str}
    (hA : A.handled = none) (X : Kf.In g) (T : TopRead p loose mg mb g) (ex : nsIn Kf mainGlobals "enumerate" = some none)
    (hk : cs.kind = .function) (hco : cs.isCoroutine = false) (hint : interactive (envX cn cs C f ccd [("n", cN)]) = false)
    (hxa : (envX cn cs C f ccd [("n", cN)]).kindOf "n" = some .free) (hxb : (envX cn cs C f ccd [("n", cN)]).kindOf "x" = some .local) (hxi : (envX cn cs C f ccd [("n", cN)]).kindOf "iterable" = some .local) (hxe : (envX cn cs C f ccd [("n", cN)]).kindOf "enumerate" = some .globalImplicit)
    (F : Fr g C s.heap m) (hm : m "iterable" = some (.ref I)) (hit : s.heap.IsListIter I l 0) (hl : s.heap.IsList l items) (hc : CellInt s.heap cN 0) (hB : B0 ≤ s.heap.objs.size)
    (hlI : l ≠ I) (hCI : C ≠ I) (hCl : C ≠ l) (hCN : C ≠ cN) (hNI : cN ≠ I) (hNl : cN ≠ l) :
    Seg (model prog w) A (cntEnd B0 [C, cN, I] cN items.size) (cntProto B0 [C, cN, I] items.size (fun i v => items[i]? = some v)) items.size s
      (.func [.Nonlocal nl pn, .For (.Tuple [.Name "n" pa, .Name "x" pb] kt pt) (.Call (.Name "enumerate" q1) [.Name "iterable" q2] [⟨some "start", .Constant (.int 1) kc q3, q4⟩] q5) [.Expr (.Yield (some (.Name "x" px)) py) pe] [] pf] (envX cn cs C f ccd [("n", cN)]))
      ((model prog w).den (.func [.Nonlocal nl pn, .For (.Tuple [.Name "n" pa, .Name "x" pb] kt pt) (.Call (.Name "enumerate" q1) [.Name "iterable" q2] [⟨some "start", .Constant (.int 1) kc q3, q4⟩] q5) [.Expr (.Yield (some (.Name "x" px)) py) pe] [] pf] (envX cn cs C f ccd [("n", cN)]))) [] s := by
  refine seg_func (seg_execs_cons ?_)
  show Seg _ A _ _ _ s _ ((pure Flow.next : Sem Flow).wrap _ _ _ _) [] s
  refine seg_wrap (m := (pure Flow.next : Sem Flow)) (wpAny_pure ?_)
  refine seg_execs_cons ?_
  rw [arm_exec_For]
  refine seg_bind_wrap (wpAny_standAt ?_)
  have hA' : (A.over (.func [.Nonlocal nl pn, .For (.Tuple [.Name "n" pa, .Name "x" pb] kt pt) (.Call (.Name "enumerate" q1) [.Name "iterable" q2] [⟨some "start", .Constant (.int 1) kc q3, q4⟩] q5) [.Expr (.Yield (some (.Name "x" px)) py) pe] [] pf] (envX cn cs C f ccd [("n", cN)])) []).handled = none := hA
  have Lt : ∀ {b o}, s.heap.get? b = some o → b ≠ s.heap.objs.size := fun x => Nat.ne_of_lt (Heap.lt_size x)
  obtain ⟨oI, hoI, _⟩ := id hit
  obtain ⟨ol, hol, _⟩ := id hl
  obtain ⟨tN, oN, hoN, hdN⟩ := id hc
  have hLC : C ≠ s.heap.objs.size := Nat.ne_of_lt F.ns.lt
  refine seg_bind_wrap (wpAny_Call_Name_kw (nameX_B F X T ex boot_enumerate (by decide) ?_ hk hxe (by decide)))
  refine callWith_type_kw rfl rfl ?_
  refine evalArgs_kw rfl ?_
  refine Calls.spliced_cons (nameX_L F hm (Calls.spliced_nil ?_) hk hxi (by decide))
  refine kws_cons (const_int (kws_nil ?_))
  refine call_enum_start hit ?_
  dsimp only
  have F1 : Fr g C (s.heap.push (enumObj I 1)) m := ⟨F.ns.push _, fun b o x => Heap.get?_push_of_some _ (F.keep b o x), F.above⟩
  have he1 : IsEnum (s.heap.push (enumObj I 1)) s.heap.objs.size I ((0 + 1 : Nat) : Int) .none := Heap.get?_push_size _ rfl
  refine seg_bind_wrap (wpAny_of_eq (a := Value.ref s.heap.objs.size) rfl ?_)
  refine seg_bind_wrap (wpAny_standAt ?_)
  refine seg_bind_wrap (wpAny_holding (wpAny_pyIter_enum he1 ?_))
  show Seg _ A _ _ _ s _ (.call _ _ _ _ _) [] _
  refine seg_call fun pcall => ?_
  have since1 : Since B0 [C, cN, I] s { s with heap := s.heap.push (enumObj I 1), toks := s.toks + 1 } := (Since.refl s).step fun b o _ _ x => Heap.get?_push_of_some _ x
  refine seg_cnt (e := s.heap.objs.size) (I := I) (l := l) (cN := cN) (items := items) (env := envX cn cs C f ccd [("n", cN)]) (fun c => ?hh) rfl ?hfg hk hxa rfl hxb (by decide) hco ?hint (Ne.symm (Lt hoI)) (Lt hol) hlI hLC hCI hCl hCN (Lt hoN) hNI hNl hB ?hend items.size 0 s _ m (Nat.sub_zero _) (Nat.zero_le _) ⟨_, he1⟩ (hit.at fun o x => Heap.get?_push_of_some _ x) (hl.push _) F1.ns (hc.at fun o x => Heap.get?_push_of_some _ x) since1
  case hh =>
    show (marksOver _ (A.handled, A.handled)).1 = none
    rw [hA]
    rfl
  case hfg => rfl
  case hint => exact hint
  case hend =>
    intro s₀ s₁ c hs hci
    refine seg_leaf (.ok .next) ?_
    show Seg _ A _ _ _ s₀ _ (leafOf (.ok (.ret .none))) [] s₁
    exact seg_end (.ok (.ret .none)) ⟨rfl, rfl, hs, hci⟩
end
end Mine
end
theorem Mine.anewX3 : True := by
  w_top off
  exact trivial
section
open PySem PySem.W PySem.Calls PyProof.Rows PySem.Float64
set_option Elab.async false
set_option maxRecDepth 100000
set_option linter.unusedVariables false
set_option exponentiation.threshold 3000
namespace Mine
section
variable {prog : Program} {w : World} {A : Around} {E : Value → Shared → Prop} {s : Shared} {t u : Tok} {Q : Value → Shared → Prop} {x y : UInt64} {a b c n : Int}

end

section
variable {prog : Program} {w : World} {A : Around} {E : Value → Shared → Prop} {s : Shared} {Q : Value → Shared → Prop}
end
end Mine
end
theorem Mine.anewG1 : True := by
  w_top off
  exact trivial
section
open PySem PySem.W PySem.Calls PyProof.Rows
set_option Elab.async false
set_option maxRecDepth 100000
set_option linter.unusedVariables false
namespace Mine

def GBare (a b : Array GenState) : Prop := (∀ y ∈ a, y.bare = true) → ∀ y ∈ b, y.bare = true
section
variable {prog : Program} {w : World} {A : Around} {E : Value → Shared → Prop} {s s' : Shared}
end
end Mine
end
theorem Mine.anewE4 : True := by
  w_top off
  exact trivial
section
open PySem PySem.W PySem.Calls PyProof.Rows
set_option Elab.async false
set_option maxRecDepth 100000
set_option linter.unusedVariables false
namespace Mine

structure MovedK (B0 : Addr) (wr : List Addr) (G : Array GenState → Array GenState → Prop) (s s' : Shared) : Prop where
  heap : ∀ b o, b ∉ wr → (b < B0 ∨ o.cls ≠ .type "enumerate") → s.heap.get? b = some o → s'.heap.get? b = some o
  gens : G s.gens s'.gens
  drawn : s'.drawn = s.drawn
  os : s'.os = s.os
  toks : s.toks ≤ s'.toks

/-- a source that keeps things of its own that are not named -/
structure WalksK (prog : Program) (w : World) (A : Around) (I B0 : Addr) (wr : List Addr) (G : Array GenState → Array GenState → Prop) (n : Nat) (P : Nat → Value → Prop) (St : Nat → Shared → Prop) (Fin : Heap → Prop) : Prop where
  gtrans : ∀ a b c, G a b → G b c → G a c
  frame : ∀ i (s : Shared) h' tk, St i s → (∀ b o, s.heap.get? b = some o → h'.get? b = some o) → St i { s with heap := h', toks := tk }
  item : ∀ i (s : Shared) (Q : Option Value → Shared → Prop) (E : Value → Shared → Prop), i < n → St i s → (∀ v s', P i v → St (i + 1) s' → MovedK B0 wr G s s' → Q (some v) s') → wpAny (model prog w) A (pyNext (.ref I)) Q E s
  done : ∀ (s : Shared) (Q : Option Value → Shared → Prop) (E : Value → Shared → Prop), St n s → (∀ s', Fin s'.heap → MovedK B0 wr G s s' → Q none s') → wpAny (model prog w) A (pyNext (.ref I)) Q E s

section
variable {prog : Program} {w : World} {A : Around} {R : Result → Shared → Prop} {I B0 : Addr} {wr : List Addr} {G : Array GenState → Array GenState → Prop} {P : Nat → Value → Prop} {St : Nat → Shared → Prop} {Fin : Heap → Prop}

theorem MovedK.trans (gt : ∀ a b c, G a b → G b c → G a c) {s s' s'' : Shared} (x : MovedK B0 wr G s s') (y : MovedK B0 wr G s' s'') : MovedK B0 wr G s s'' :=
  ⟨fun b o hb hc e => y.heap b o hb hc (x.heap b o hb hc e), gt _ _ _ x.gens y.gens, y.drawn.trans x.drawn, y.os.trans x.os, Nat.le_trans x.toks y.toks⟩
theorem unpack_map2 (xs : List UInt64) : (((some (xs.map fun x => rawInt x.toNat).toArray).getD #[]).toList.map fun v => match v with | Value.int i _ => i.toNat.toUInt64 | _ => 0) = xs := by
  simp only [Option.getD_some, List.map_map]
  induction xs with
  | nil => rfl
  | cons x r ih => simp only [List.map_cons, Function.comp, rawInt, Int.toNat_natCast]; rw [show x.toNat.toUInt64 = x by simp]; congr 1
theorem codeAny_fsum_loopK {xs : List Nm} (hA : A.handled = none) (W : WalksK prog w A.in1 I B0 wr G xs.length P St Fin) (hval : ∀ i v, P i v → ∃ a, xs[i]? = some a ∧ NmIs v a) (hfit : ∀ a ∈ xs, a.fits) (hlen : xs.length < sizeLine) (B : Nat) (hB : ∀ b ∈ wr, b < B) :
    ∀ (k i : Nat) (s : Shared) (ps : List UInt64) (T S : Addr) (c1 c2 : Nat), xs.length - i = k → i ≤ xs.length → St i s → ps.length ≤ i → B ≤ T → B ≤ S → s.heap.get? T = some (bitsTup ps c1) → s.heap.get? S = some (bitsTup [Float64.zero false, Float64.zero false] c2) →
    fsumOk ps ((xs.drop i).map Nm.real) →
    (∀ s' t, Fin s'.heap → MovedK B0 wr G s s' → R (.ok (.ret (.float (Float64.fsumEnd (((xs.drop i).map Nm.real).foldl fsumStep ps)) t))) s') → codeAny (model prog w) A (.builtin "math.fsum.loop" ⟨[.ref I, .ref T, .ref S], []⟩) R s := by
  intro k
  induction k with
  | zero =>
    intro i s ps T S c1 c2 hk hi hst hps hT hS gT gS hok hR
    have hin : i = xs.length := by (first | lia | omega)
    subst hin
    rw [List.drop_length] at hR
    refine codeAny_builtin entry_fsum_loop ?_
    rw [Around.under_plainId plain_fsum_loop _]
    show wpAny _ A.in1 ((seqItems? (.ref T) >>= fun o => pure ((o.getD #[]).toList.map fun v => match v with | Value.int i _ => i.toNat.toUInt64 | _ => 0)) >>= _) _ _ s
    refine wpAny_bind (wpAny_bind (wpAny_seqItems gT rfl (wpAny_pure ?_)))
    rw [unpack_map2]
    show wpAny _ A.in1 ((seqItems? (.ref S) >>= fun o => pure ((o.getD #[]).toList.map fun v => match v with | Value.int i _ => i.toNat.toUInt64 | _ => 0)) >>= _) _ _ s
    refine wpAny_bind (wpAny_bind (wpAny_seqItems gS rfl (wpAny_pure ?_)))
    rw [unpack_map2]
    show wpAny _ A.in1 (pyNext (.ref I) >>= _) _ _ s
    refine wpAny_bind (W.done s _ _ hst fun s' hf hm => ?_)
    show wpAny _ A.in1 (if (!Float64.isZero (Float64.zero false)) = true then _ else _) _ _ s'
    rw [if_neg (by decide +kernel)]
    show wpAny _ A.in1 (Builtin.Float.retFloat _) _ _ s'
    exact wpAny_bind (Flt.wp_mkFloat (wpAny_pure (hR _ _ hf ⟨hm.heap, hm.gens, hm.drawn, hm.os, Nat.le_succ_of_le hm.toks⟩)))
  | succ k ih =>
    intro i s ps T S c1 c2 hk hi hst hps hT hS gT gS hok hR
    have hlt : i < xs.length := by (clear hR hok gS gT hS hT hps hst hi ih hB hlen hfit hval W hA; omega)
    refine codeAny_builtin entry_fsum_loop ?_
    rw [Around.under_plainId plain_fsum_loop _]
    show wpAny _ A.in1 ((seqItems? (.ref T) >>= fun o => pure ((o.getD #[]).toList.map fun v => match v with | Value.int i _ => i.toNat.toUInt64 | _ => 0)) >>= _) _ _ s
    refine wpAny_bind (wpAny_bind (wpAny_seqItems gT rfl (wpAny_pure ?_)))
    rw [unpack_map2]
    show wpAny _ A.in1 ((seqItems? (.ref S) >>= fun o => pure ((o.getD #[]).toList.map fun v => match v with | Value.int i _ => i.toNat.toUInt64 | _ => 0)) >>= _) _ _ s
    refine wpAny_bind (wpAny_bind (wpAny_seqItems gS rfl (wpAny_pure ?_)))
    rw [unpack_map2]
    show wpAny _ A.in1 (pyNext (.ref I) >>= _) _ _ s
    refine wpAny_bind (W.item i s _ _ hlt hst fun v s' hP hst' hm => ?_)
    obtain ⟨a, ha, hv⟩ := hval i v hP
    have hdrop : xs.drop i = a :: xs.drop (i + 1) := by
      rw [List.drop_eq_getElem_cons hlt]; congr 1; exact Option.some.inj ((List.getElem?_eq_getElem hlt).symm.trans ha)
    rw [hdrop] at hok hR
    simp only [List.map_cons, List.foldl_cons, fsumOk] at hok hR
    have hmem : a ∈ xs := List.mem_of_getElem? ha
    refine wpAny_bind (wpAny_holding (realArg_nm hA hv (hfit a hmem) fun tk htk => ?_))
    show wpAny _ A.in1 (if Float64.isFinite (Float64.fsumAdd ps a.real).2 = true then _ else _) _ _ _
    rw [if_pos hok.1]
    show wpAny _ A.in1 (newTuple ((fsumStep ps a.real).map fun x => rawInt x.toNat) >>= _) _ _ _
    have hl2 := fsumStep_len ps a.real
    refine wpAny_bind (packBits_wp (by (clear htk hmem hR hok hdrop hv ha hm hst' hP hlt gS gT hS hT hst hk ih hB hfit hval W hA; lia)) ?_)
    refine wpAny_pure ⟨plainId_quiet plain_fsum_loop _, ?_⟩
    have hT' : ¬ T ∈ wr := fun q => Nat.lt_irrefl _ (Nat.lt_of_lt_of_le (hB _ q) hT)
    have hS' : ¬ S ∈ wr := fun q => Nat.lt_irrefl _ (Nat.lt_of_lt_of_le (hB _ q) hS)
    have gS' := hm.heap S (bitsTup [Float64.zero false, Float64.zero false] c2) hS' (.inr (by intro q; injection q with q; revert q; decide)) gS
    have hBs : B ≤ s'.heap.objs.size := Nat.le_trans hS (Nat.le_of_lt (Heap.lt_size gS'))
    refine ih (i + 1) _ (fsumStep ps a.real) s'.heap.objs.size S 0 c2 (by (clear hBs gS' hS' hT' hl2 htk hmem hR hok hdrop hv ha hm hst' hP gS gT hS hT hps hst hi ih hB hlen hfit hval W hA; grind)) (by (clear hBs gS' hS' hT' hl2 htk hmem hR hok hdrop hv ha hm hst' hP gS gT hS hT hps hst hi hk ih hB hlen hfit hval W hA; lia)) (W.frame _ s' _ tk hst' fun b o e => Heap.get?_push_of_some _ e) (by (first | lia | omega)) hBs hS (Heap.get?_push_size _ rfl) (Heap.get?_push_of_some _ gS') hok.2 fun s'' t hf hm2 => hR s'' t hf ?_
    refine MovedK.trans W.gtrans ?_ hm2
    exact ⟨fun b o hb hc e => Heap.get?_push_of_some _ (hm.heap b o hb hc e), hm.gens, hm.drawn, hm.os, Nat.le_trans hm.toks htk⟩

/-- fsum over a generator -/
theorem call_fsumK {xs : List Nm} {E : Value → Shared → Prop} {s : Shared} {Q : Value → Shared → Prop} (hA : A.handled = none) (W : WalksK prog w A.in1 I B0 wr G xs.length P St Fin) (hval : ∀ i v, P i v → ∃ a, xs[i]? = some a ∧ NmIs v a) (hst : St 0 s) (hwr : ∀ b ∈ wr, b < s.heap.objs.size)
    (hself : ∀ Q' : Value → Shared → Prop, Q' (.ref I) s → wpAny (model prog w) A.in1 (pyIter (.ref I)) Q' E s) (hfit : ∀ a ∈ xs, a.fits) (hlen : xs.length < sizeLine) (hok : fsumOk [] (xs.map Nm.real))
    (h : ∀ s' t, Fin s'.heap → MovedK B0 wr G s s' → Q (.float (fsumP (xs.map Nm.real)) t) s') :
    wpAny (model prog w) A (call (.builtin "math.fsum") [.ref I]) Q E s := by
  refine call_function_tree kind_fsum plain_fsum entry_fsum (args_fsum _) ?_
  unfold Builtin.«math.fsum»
  refine wpAny_bind (m := Builtin.Math.mathOne "fsum" _) (wpAny_pure ?_)
  refine wpAny_bind (hself _ ?_)
  refine wpAny_bind (packBits_wp (xs := []) (by simp) ?_)
  refine wpAny_bind (packBits_wp (xs := [Float64.zero false, Float64.zero false]) (by show 2 ≤ sizeLine; decide) ?_)
  refine wpAny_pure ⟨plainId_quiet plain_fsum_loop _, ?_⟩
  refine codeAny_fsum_loopK hA W hval hfit hlen s.heap.objs.size hwr xs.length 0 _ [] s.heap.objs.size (s.heap.push (bitsTup [] 0)).objs.size 0 0 (by (first | grind | omega)) (by (first | grind | omega))
    (W.frame 0 s _ s.toks hst fun b o e => Heap.get?_push_of_some _ (Heap.get?_push_of_some _ e)) (Nat.le_refl _) (Nat.le_refl _) (by rw [Heap.size_push]; (first | grind | omega))
    (Heap.get?_push_of_some _ (Heap.get?_push_size _ rfl)) (Heap.get?_push_size _ rfl) (by simpa using hok) fun s' t hf hm => ?_
  refine h s' t hf ⟨fun b o hb hc e => hm.heap b o hb hc (Heap.get?_push_of_some _ (Heap.get?_push_of_some _ e)), hm.gens, hm.drawn, hm.os, hm.toks⟩
end

section
variable {prog : Program} {w : World} {A : Around} {E : Value → Shared → Prop} {s : Shared}

/-- the next of a def's generator, that leaves no cleanup behind -/
theorem next_genQ {a : Addr} {g n : Nat} {gs : GenState} {P : Nat → Shared → Shared → Prop} {Y : Protocol} {Q : Option Value → Shared → Prop} (hh : A.handled = none)
    (hl : s.heap.NoLimit) (hroom : A.depth < recursionLimit) (hg : s.heap.IsGen a g) (hgs : s.gens[g]? = some gs)
    (hgo : gs.Goes (model prog w) A.in1 (fun n s₀ r s₁ => r = .ok (.ret .none) ∧ P n s₀ s₁) Y n (.send .none) (s.setGen g .running))
    (hY : ∀ v s₁ gs', gs'.bare = true → Y (n - 1) (s.setGen g .running) v s₁ (fun r' s'' => match n with
        | 0 => False
        | m + 1 => gs'.Goes (model prog w) A.in1 (fun n s₀ r s₁ => r = .ok (.ret .none) ∧ P n s₀ s₁) Y m r' s'') → Q (some v) (s₁.setGen g gs'))
    (hP : ∀ s₁, P n (s.setGen g .running) s₁ → ∀ h', (∀ b o, s₁.heap.get? b = some o → h'.get? b = some o) → Q none { s₁.setGen g .finished with heap := h' }) :
    wpAny (model prog w) A (pyNext (.ref a)) Q E s := by
  unfold pyNext
  refine wpAny_bind (wpAny_attempt (wpAny_callSpecial?_slot (name := Str.ofString "__next__") hg.typeIs slot_gen_next
    (wpAny_call_entry slot_gen_next hg.typeIs entry_gen_next ?_ (args_gen_next _))))
  show wpAny _ A.in1 (Builtin.Generator.genWake (.ref a) (.send .none)) _ _ s
  unfold Builtin.Generator.genWake
  refine wpAny_bind (wpAny_holding (wpAny_genNumber hg (wpAny_bind (wpAny_genState hgs ?_))))
  cases gs with
  | running => exact hgo.elim
  | finished => exact hgo.elim
  | _ =>
    refine wpAny_bind (wpAny_roomToWake hl hroom ?_)
    show wpAny _ A.in1 (.resume g (.send .none) [] _) _ _ s
    refine wpAny_resumeQ hgs hgo (fun x s₁ hx => ?_) (fun v s₁ gs' hb hv => ?_)
    · obtain ⟨rfl, hp⟩ := hx
      show wpAny _ A.in1 (newExc (.type "StopIteration") [] >>= _) _ _ _
      refine wpAny_bind ?_
      simp only [newExc, newTuple]
      refine wpAny_bind (wpAny_newObj_type ?_ (by size_fits))
      refine wpAny_bind (m := firstArgMember _ _) (wpAny_of_eq (a := Value.none) (by first | rfl | (simp only [firstArgMember]; rfl)) ?_)
      refine wpAny_newObj_type ?_ (by size_fits)
      simp only [raiseNew]
      refine wpAny_bind (wpAny_bind (wpAny_handled ?_))
      first | rw [show A.in1.handled = none from hh] | rw [hh]
      refine wpAny_throw ?_
      refine wpAny_bind (wpAny_isInstance (T := "StopIteration") (b := true) ⟨_, Heap.get?_push_size _ rfl, rfl⟩ isSubtype_stop ?_)
      exact wpAny_pure (hP s₁ hp _ fun b o hb => Heap.get?_push_of_some _ (Heap.get?_push_of_some _ hb))
    · exact wpAny_pure ⟨v, rfl, wpAny_pure (hY v s₁ gs' hb hv)⟩

/-- fmean's generator between two turns -/
def CntAt (prog : Program) (w : World) (A : Around) (a : Addr) (g : Nat) (B0 : Addr) (wr : List Addr) (cN : Addr) (n : Nat) (P : Nat → Value → Prop) (j : Nat) (s : Shared) : Prop :=
  s.heap.IsGen a g ∧ s.heap.NoLimit ∧ ∃ gs, s.gens[g]? = some gs ∧ ∀ s'' : Shared, (∀ b o, s.heap.get? b = some o → s''.heap.get? b = some o) →
    gs.Goes (model prog w) A.in1 (cntEnd B0 wr cN n) (cntProto B0 wr n P) (n - j) (.send .none) s''

theorem walks_cnt (hh : A.handled = none) (a : Addr) (g : Nat) (B0 : Addr) (wr : List Addr) (cN : Addr) (n : Nat) (P : Nat → Value → Prop) (ha : a ∉ wr) (hc : cStatics ∉ wr) (haB : a < B0) (hcB : cStatics < B0) (hroom : A.depth < recursionLimit) :
    WalksK prog w A a B0 wr (GenOnlyQ g) n P (CntAt prog w A a g B0 wr cN n P) (fun h => CellInt h cN n) where
  gtrans := fun _ _ _ x y => x.trans y
  frame := fun j s h' tk st hk =>
    ⟨st.1.keeps hk, st.2.1.keeps hk, let ⟨gs, hgs, hgo⟩ := st.2.2; ⟨gs, hgs, fun s'' hal => hgo s'' fun b o e => hal b o (hk b o e)⟩⟩
  item := fun j s Q E hj st hQ => by
    obtain ⟨hg, hl, gs, hgs, hgo⟩ := st
    obtain ⟨m, hm⟩ : ∃ m, n - j = m + 1 := ⟨n - j - 1, by (first | grind | omega)⟩
    rw [hm] at hgo
    refine wpAny_with_toks (Nat.le_refl s.toks) ?_
    refine next_genQ (P := fun k s₀ s₁ => k = 0 ∧ Since B0 wr s₀ s₁ ∧ CellInt s₁.heap cN n) hh hl hroom hg hgs (hgo _ fun _ _ e => e) (fun v s₁ gs' hb hv => ?_) (fun s₁ hp h' hk => ?_)
    · obtain ⟨hP, ⟨h₁, tk₁, rfl, hk₁⟩, hkap⟩ := hv
      have hidx : n - 1 - (m + 1 - 1) = j := by (first | grind | omega)
      rw [hidx] at hP
      intro htk
      refine hQ v _ hP ⟨?_, ?_, gs', setGen_self (gs := .running) (setGen_self hgs), fun s'' hal => ?_⟩
        ⟨fun b o hb hc e => hk₁ b o hb hc e, GenOnlyQ.of ((GenOnly.setGen s g .running).trans (GenOnly.setGen _ g gs')) (setGen_self (gs := .running) (setGen_self hgs)) hb, rfl, rfl, htk⟩
      · obtain ⟨o, nm, qn, ho, r⟩ := hg
        exact ⟨o, nm, qn, hk₁ a o ha (.inl haB) ho, r⟩
      · obtain ⟨mc, hns, hnn⟩ := hl
        exact ⟨mc, hns.at' fun o e => hk₁ cStatics o hc (.inl hcB) e, hnn⟩
      · have e : n - (j + 1) = m := by (first | grind | omega)
        rw [e]
        exact hkap s'' hal
    · exact absurd hp.1 (Nat.succ_ne_zero m)
  done := fun s Q E st hQ => by
    obtain ⟨hg, hl, gs, hgs, hgo⟩ := st
    rw [Nat.sub_self] at hgo
    refine wpAny_with_toks (Nat.le_refl s.toks) ?_
    refine next_genQ (P := fun k s₀ s₁ => k = 0 ∧ Since B0 wr s₀ s₁ ∧ CellInt s₁.heap cN n) hh hl hroom hg hgs (hgo _ fun _ _ e => e) (fun v s₁ gs' hb hv => ?_) (fun s₁ hp h' hk => ?_)
    · obtain ⟨_, _, hkap⟩ := hv
      exact False.elim (hkap s₁ fun _ _ e => e)
    · obtain ⟨_, ⟨h₁, tk₁, rfl, hk₁⟩, hci⟩ := hp
      intro htk
      exact hQ _ (hci.at fun o e => hk cN o e) ⟨fun b o hb hc e => hk b o (hk₁ b o hb hc e), GenOnlyQ.of ((GenOnly.setGen s g .running).trans (GenOnly.setGen _ g .finished)) (setGen_self (gs := .running) (setGen_self hgs)) rfl, rfl, rfl, htk⟩
end
end Mine
end
theorem Mine.anewG2 : True := by
  w_top off
  exact trivial
section
open PySem PySem.W PySem.Calls PyProof.Rows
set_option Elab.async false
set_option maxRecDepth 100000
set_option linter.unusedVariables false
namespace Mine
section
variable {prog : Program} {w : World} {A : Around} {E : Value → Shared → Prop} {s : Shared} {Q : Value → Shared → Prop}
end

end Mine
end
theorem Mine.anewW1 : True := by
  w_top off
  exact trivial
section
open PySem PySem.W PySem.Calls PyProof.Rows
set_option Elab.async false
set_option maxRecDepth 100000
set_option linter.unusedVariables false
namespace Mine
section
variable {g h h' : Heap} {L : Addr} {m : Str → Option Value} {news : List (Addr × Obj)} {b : Addr} {o : Obj}
theorem newsAdd (N : News g L h news) (e : h.get? b = some o) (hL : b ≠ L) (hg : g.get? b = none) : News g L h ((b, o) :: news) := fun q hq => by
  rcases List.mem_cons.mp hq with rfl | hq
  · exact ⟨e, hL, hg⟩
  · exact N q hq
theorem newsSub (N : News g L h news) {l : List (Addr × Obj)} (hs : ∀ q ∈ l, q ∈ news) : News g L h l := fun q hq => N q (hs q hq)
theorem frKeep (F : Fr g L h m) (k : ∀ b o, h.get? b = some o → h'.get? b = some o) : Fr g L h' m := ⟨F.ns.keeps k, fun b o e => k _ _ (F.keep b o e), F.above⟩
theorem newsKeep (N : News g L h news) (k : ∀ b o, h.get? b = some o → h'.get? b = some o) : News g L h' news := fun q hq => ⟨k _ _ (N q hq).1, (N q hq).2.1, (N q hq).2.2⟩
theorem frBut {P : List Addr} (F : Fr g L h m) (k : ∀ b o, b ∉ P → h.get? b = some o → h'.get? b = some o) (hL : L ∉ P) (hg : ∀ b ∈ P, g.get? b = none) : Fr g L h' m :=
  ⟨F.ns.at' fun o e => k _ _ hL e, fun b o e => k b o (fun q => by rw [hg b q] at e; cases e) (F.keep b o e), F.above⟩
theorem newsBut {P : List Addr} (N : News g L h news) (k : ∀ b o, b ∉ P → h.get? b = some o → h'.get? b = some o) (hn : ∀ q ∈ news, q.1 ∉ P) : News g L h' news := fun q hq => ⟨k _ _ (hn q hq) (N q hq).1, (N q hq).2.1, (N q hq).2.2⟩
end
end Mine
end
theorem Mine.anewW2 : True := by
  w_top off
  exact trivial
section
open PySem PySem.W PySem.Calls PyProof.Rows
set_option Elab.async false
set_option maxRecDepth 100000
set_option linter.unusedVariables false
namespace Mine
section
variable {prog : Program} {w : World} {A : Around} {E : Value → Shared → Prop} {Q : Value → Shared → Prop}

end
end Mine
end
theorem Mine.anewW3 : True := by
  w_top off
  exact trivial
section
open PySem PySem.W PySem.Calls PyProof.Rows
set_option Elab.async false
set_option maxRecDepth 100000
set_option linter.unusedVariables false
namespace Mine
section
variable {prog : Program} {w : World} {A : Around} {E : Value → Shared → Prop} {s : Shared} {g : Heap} {p : Program} {loose : List Str} {mean : ExcName → Option Value} {mg mb : Str → Option Value}
end

end Mine
end
theorem Mine.anewFmT : True := by
  w_top off
  exact trivial
section
open PySem PySem.W PyProof.Rows PySem.Calls
set_option Elab.async false
set_option maxRecDepth 100000
set_option maxHeartbeats 8000000
set_option linter.unusedVariables false
namespace Mine

/-- a top def of the program: its scope, and a statement of its body -/
def defS (n : Nat) : Scope := match (List.drop n PySem.Challenge.pw_kp0013_02.main.body : List Stmt) with
  | Stmt.FunctionDef _ _ _ _ _ _ sc _ _ _ :: _ => sc
  | _ => PySem.Challenge.pw_kp0013_02.main.scope
def defB (n i : Nat) : Stmt := match (List.drop n PySem.Challenge.pw_kp0013_02.main.body : List Stmt) with
  | Stmt.FunctionDef _ _ b _ _ _ _ _ _ _ :: _ => (match List.drop i b with | x :: _ => x | _ => .Pass ⟨0, 0, 0, 0⟩)
  | _ => .Pass ⟨0, 0, 0, 0⟩

/-- what a sum of products is to give -/
def SumP (prog : Program) (w : World) (vs ws : List Value) (num : Nm) : Prop :=
  ∀ (A : Around) (E Q : Value → Shared → Prop) (s : Shared) (v : Value) (mods : List Addr) (r2 : Addr), A.handled = none → SrcAt s.heap vs v mods → s.heap.IsList r2 ws.toArray →
    (vs.length = ws.length → ∀ h' tk u, NmIs u num → (∀ b o, b ∉ mods → s.heap.get? b = some o → h'.get? b = some o) → Q u { s with heap := h', toks := tk }) →
    (vs.length ≠ ws.length → ∀ h₁ h' tk e, (∀ b o, b ∉ mods → s.heap.get? b = some o → h₁.get? b = some o) → Heap.NewExc h₁ h' e "ValueError" → E (.ref e) { s with heap := h', toks := tk }) →
    wpAny (model prog w) A (call (.builtin "math.sumprod") [v, .ref r2]) Q E s

theorem pin2 {m : Str → Option Value} {a b : Str} {x y : Value} (h1 : m a = some x) (h2 : m b = some y) : m = fun z => if z = a then some x else if z = b then some y else m z := by
  funext z
  by_cases ha : z = a
  · rw [if_pos ha, ha, h1]
  · rw [if_neg ha]
    by_cases hb : z = b
    · rw [if_pos hb, hb, h2]
    · rw [if_neg hb]

theorem out_down {fs mods : List Addr} {g h h' : Heap} {L e C : Addr} {m : Str → Option Value} {words : Str} (F : Fr g L h m) (O : Out (L :: fs) mods h h' e C words) : Out fs mods g h' e C words := by
  have dn : ∀ {b : Addr}, h.get? b = none → g.get? b = none := fun {b} hb => by
    cases z : g.get? b with
    | none => rfl
    | some o => rw [F.keep _ _ z] at hb; cases hb
  have hL : ∀ {b : Addr} {o : Obj}, g.get? b = some o → b ≠ L := fun {b o} hb q => by
    rw [q, self_none F] at hb; cases hb
  obtain ⟨T, t, vs, tk, x, hT, hv, ht, htn⟩ := O.trc
  refine ⟨⟨fun b o hb hm hf => O.chg.keep b o (F.keep b o hb) hm fun q => ?_, fun b o hb hm hf => O.chg.slot b o (F.keep b o hb) hm (List.mem_cons_of_mem _ hf)⟩, dn O.fresh, T, t, vs, tk, x, dn hT, hv, ht, dn htn⟩
  rcases List.mem_cons.mp q with q | q
  · exact hL hb q
  · exact hf q

/-- an exception raised in the suite of a handler leaves the def -/
theorem out_suite {fs : List Addr} {h2 h3 h4 h5 : Heap} {e e2 T2 t C : Addr} {vs : Array Value} {words : Str} {tk : Tok} (hn : h2.get? e = none) (Ca : Chg fs [e] h2 h3) (Cb : Chg fs [] h3 h4) (Cc : Chg [] [T2] h4 h5) (n1 : h3.get? e2 = none) (n2 : h3.get? T2 = none) (n3 : h3.get? t = none)
    {fl : Value} (x4 : Trc h4 e2 T2 (.ref C) vs fl) (x5 : Trc h5 e2 T2 (.ref C) vs .none) (hv : vs[0]? = some (.ref t)) (ht : h4.TupAt t [.str words tk]) : Out fs [] h2 h5 e2 C words := by
  have Ca' : Chg fs [] h2 h3 := Ca.drop hn
  have dn : ∀ {b : Addr}, h3.get? b = none → h2.get? b = none := fun {b} hb => by
    cases z : h2.get? b with
    | none => rfl
    | some o =>
      obtain ⟨sl, hs⟩ := Ca'.up z nofun
      rw [hb] at hs; cases hs
  have Cd : Chg fs [] h2 h5 := (((Ca'.trans Cb).add T2).trans (Cc.mono (fun _ h => nomatch h) fun _ h => h)).drop (dn n2)
  obtain ⟨ot, nt, hot, hotc, hotd⟩ := ht
  obtain ⟨oT, ts, hT, hdT, _⟩ := x4.trace
  have tT : t ≠ T2 := fun q => by rw [q, hT] at hot; cases hot; rw [hdT] at hotd; cases hotd
  exact ⟨Cd, dn n1, T2, t, vs, tk, x5, dn n2, hv, ⟨ot, nt, Cc.keep t ot hot (by simpa using tT) nofun, hotc, hotd⟩, dn n3⟩

theorem nm_div {prog : Program} {w : World} {A : Around} {E : Value → Shared → Prop} {s : Shared} {Q : Value → Shared → Prop} {v : Value} {a : Nm} {d : UInt64} {t : Tok} (hA : A.handled = none) (hv : NmIs v a) (hf : a.fits) (hd : Float64.isZero d = false)
    (h : ∀ tk, Q (.float (Float64.div a.real d) tk) { s with toks := s.toks + 1 }) : wpAny (model prog w) A (binaryOp .Div v (.float d t)) Q E s := by
  cases a with
  | i n =>
    obtain ⟨u, rfl⟩ := hv
    exact Flt.truediv_if hA (fun q => absurd q hf) (fun _ q => by rw [hd] at q; cases q) fun _ _ => h _
  | f x =>
    obtain ⟨u, rfl⟩ := hv
    exact truediv_float_or hA (fun q => by rw [hd] at q; cases q) fun _ => h _

theorem fm_tail {w : World} {p : Program} {loose : List Str} {mean : ExcName → Option Value} {mg mb : Str → Option Value} {dp un : Nat} {gd : Option (List Code)} {cn : Str} {cs : Scope} {L a : Addr} {ccd : Value} {cl : List (Str × Addr)} {outer : List Env} {base g : Heap} {s : Shared} {Q E : Value → Shared → Prop} {L' : Addr} {m : Str → Option Value} {S : Scope} {b2 b3 b4 b5 : Stmt} (eS : S = defS 3) (e2 : b2 = defB 3 2) (e3 : b3 = defB 3 3) (e4 : b4 = defB 3 4) (e5 : b5 = defB 3 5)
   {mods : List Addr} (B : Below (ktrTop dp un gd cn cs L a ccd cl outer) base (envX cn cs L a ccd cl :: outer) g) (X : (hd2.heap_39 w.params).In base) (T : Top p loose mean mg mb base)
   {x : Value} {I J y : Addr} {oI oJ : Obj} {vs ws : List Value} {ys : List Nm} {num : Nm}
   (F : Fr g L' s.heap m) (hm1 : m "data" = some x) (hm2 : m "weights" = some (.ref y)) (N : News g L' s.heap [(I, oI), (J, oJ)]) (hmods : ∀ b ∈ mods, b ≠ J ∧ b ≠ L' ∧ g.get? b = none)
   (hx : ∀ h' : Heap, h'.get? I = some oI → (∀ b o, g.get? b = some o → h'.get? b = some o) → SrcAt h' vs x mods) (hy : ∀ h' : Heap, h'.get? J = some oJ → (∀ b o, g.get? b = some o → h'.get? b = some o) → h'.IsList y ws.toArray)
   (hS : SumP PySem.Challenge.rw_kp0013_02.row.prog w vs ws num) (hnum : num.fits) (hN : NmsAre ws ys) (hfit : ∀ a ∈ ys, a.fits) (hlen : ys.length < sizeLine) (hok : fsumOk [] (ys.map Nm.real))
   (hroom : dp + 8 < recursionLimit) (hun : un + 8 < cLine)
   (ret : vs.length = ws.length → Float64.isZero (fsumP (ys.map Nm.real)) = false → ∀ s' t, (∀ b o, g.get? b = some o → s'.heap.get? b = some o) → s'.gens = s.gens → s'.drawn = s.drawn → s'.os = s.os → Q (.float (Float64.div num.real (fsumP (ys.map Nm.real))) t) s')
   (err : ∀ s' e words, ((vs.length ≠ ws.length ∧ words = "data and weights must be the same length") ∨ (vs.length = ws.length ∧ Float64.isZero (fsumP (ys.map Nm.real)) = true ∧ words = "sum of weights must be non-zero")) →
     Out (frs (envX cn cs L a ccd cl :: outer)) [] g s'.heap e 52 words → s'.gens = s.gens → s'.drawn = s.drawn → s'.os = s.os → E (.ref e) s') :
   wpAny (model PySem.Challenge.rw_kp0013_02.row.prog w) ((ktrTop dp un gd cn cs L a ccd cl outer).deeper (envOfC "fmean" S L' 63 (.ref 62))) (execs [b2, b3, b4, b5] (envOfC "fmean" S L' 63 (.ref 62)))
     (fun fl s' => Q (match fl with | .ret v => v | _ => .none) s')
     (fun e s' => wpAny (model PySem.Challenge.rw_kp0013_02.row.prog w) ((ktrTop dp un gd cn cs L a ccd cl outer).deeper (envOfC "fmean" S L' 63 (.ref 62))) (leaving (envOfC "fmean" S L' 63 (.ref 62)) e) (fun _ s'' => E e s'') (fun e' s'' => E e' s'') s') s := by
  revert X; k_fill; intro X
  have Xg := X.keeps B.stays
  have Tg := T.keeps B.stays
  conv at eS => rhs; whnf
  conv at e2 => rhs; whnf
  conv at e3 => rhs; whnf
  conv at e4 => rhs; whnf
  conv at e5 => rhs; whnf
  subst eS e2 e3 e4 e5
  rw [pin2 hm1 hm2] at F
  (repeat' ((fail_if_success (with_reducible first | show wpAny _ _ (call (Value.builtin "math.sumprod") _) _ _ _ | show wpAny _ _ (call (Value.builtin "math.fsum") _) _ _ _ | show wpAny _ _ (exec (Stmt.Try _ _ _ _ _) _) _ _ _ | show wpAny _ _ (exec (Stmt.Raise _ _ _) _) _ _ _)); first | (exfalso; omega) | (k_unfold; (try dsimp only)) | walk1 | (dsimp only; walk1) | (leave1; walk_say "STEP leave1"; try dsimp only)))
  refine wpAny_Try_except ?_
  (repeat' ((fail_if_success (with_reducible first | show wpAny _ _ (call (Value.builtin "math.sumprod") _) _ _ _ | show wpAny _ _ (call (Value.builtin "math.fsum") _) _ _ _ | show wpAny _ _ (exec (Stmt.Try _ _ _ _ _) _) _ _ _ | show wpAny _ _ (exec (Stmt.Raise _ _ _) _) _ _ _)); first | (exfalso; omega) | (k_unfold; (try dsimp only)) | walk1 | (dsimp only; walk1) | (leave1; walk_say "STEP leave1"; try dsimp only)))
  rename Fr _ _ _ _ => F
  rename News _ _ _ _ => N
  refine hS _ _ _ _ _ mods y rfl (hx _ (N (I, oI) (by first | ((repeat (first | exact List.mem_cons_self | apply List.mem_cons_of_mem)); done) | simp)).1 F.keep) (hy _ (N (J, oJ) (by first | ((repeat (first | exact List.mem_cons_self | apply List.mem_cons_of_mem)); done) | simp)).1 F.keep) ?okS ?erS
  case okS =>
    intro heq h' tk u hu hk
    have F1 := frBut (P := mods) F hk (fun q => (hmods _ q).2.1 rfl) (fun b hb => (hmods b hb).2.2)
    have N1 : News g L' h' [(J, oJ)] := newsAdd (fun _ h => nomatch h) (hk _ _ (fun q => (hmods _ q).1 rfl) (N (J, oJ) (by first | ((repeat (first | exact List.mem_cons_self | apply List.mem_cons_of_mem)); done) | simp)).1) (N (J, oJ) (by first | ((repeat (first | exact List.mem_cons_self | apply List.mem_cons_of_mem)); done) | simp)).2.1 (N (J, oJ) (by first | ((repeat (first | exact List.mem_cons_self | apply List.mem_cons_of_mem)); done) | simp)).2.2
    clear F N hx
    refine storeX_L F1 N1 (fun h4 F N => ?_) rfl rfl
    (repeat' ((fail_if_success (with_reducible first | show wpAny _ _ (call (Value.builtin "math.sumprod") _) _ _ _ | show wpAny _ _ (call (Value.builtin "math.fsum") _) _ _ _ | show wpAny _ _ (exec (Stmt.Try _ _ _ _ _) _) _ _ _ | show wpAny _ _ (exec (Stmt.Raise _ _ _) _) _ _ _)); first | (exfalso; omega) | (k_unfold; (try dsimp only)) | walk1 | (dsimp only; walk1) | (leave1; walk_say "STEP leave1"; try dsimp only)))
    rename Fr _ _ _ _ => F
    rename News _ _ _ _ => N
    refine fsum_src rfl (.list (hy h4 (N (J, oJ) (by first | ((repeat (first | exact List.mem_cons_self | apply List.mem_cons_of_mem)); done) | simp)).1 F.keep)) hN hfit hlen hok (fun h5 tk5 t5 k5 => ?_)
    replace F := frKeep F fun b o e => k5 b o (by first | ((repeat (first | exact List.mem_cons_self | apply List.mem_cons_of_mem)); done) | simp) e
    replace N := newsKeep N fun b o e => k5 b o (by first | ((repeat (first | exact List.mem_cons_self | apply List.mem_cons_of_mem)); done) | simp) e
    generalize fsumP (List.map Nm.real ys) = D at *
    (repeat' ((fail_if_success (with_reducible first | show wpAny _ _ (call (Value.builtin "math.sumprod") _) _ _ _ | show wpAny _ _ (call (Value.builtin "math.fsum") _) _ _ _ | show wpAny _ _ (exec (Stmt.Try _ _ _ _ _) _) _ _ _ | show wpAny _ _ (exec (Stmt.Raise _ _ _) _) _ _ _)); first | (exfalso; omega) | (k_unfold; (try dsimp only)) | walk1 | (dsimp only; walk1) | (leave1; walk_say "STEP leave1"; try dsimp only)))
    · rename Fr _ _ _ _ => F
      rename (Float64.isZero D = true) => hz
      refine raise_words F Xg (topRead_of Tg) (C := 52) ?ex ?xq PySem.F.excBase_ValueError (fun h6 e hm => ?_) rfl rfl (by decide)
      case ex => k_is
      case xq => k_exc
      show wpAny _ _ (leaving _ _) _ _ _
      refine leave_made B F hm (fun h7 O => ?_) rfl
      exact err _ e _ (.inr ⟨heq, hz, rfl⟩) (out_down F O) rfl rfl rfl
    · rename Fr _ _ _ _ => F
      rename (Float64.isZero D = false) => hz
      refine nm_div rfl hu hnum hz (fun tk6 => ?_)
      (repeat' ((fail_if_success (with_reducible first | show wpAny _ _ (call (Value.builtin "math.sumprod") _) _ _ _ | show wpAny _ _ (call (Value.builtin "math.fsum") _) _ _ _ | show wpAny _ _ (exec (Stmt.Try _ _ _ _ _) _) _ _ _ | show wpAny _ _ (exec (Stmt.Raise _ _ _) _) _ _ _)); first | (exfalso; omega) | (k_unfold; (try dsimp only)) | walk1 | (dsimp only; walk1) | (leave1; walk_say "STEP leave1"; try dsimp only)))
      exact ret heq hz _ _ F.keep rfl rfl rfl
  case erS =>
    intro hne h2 h' tk e hk hx
    obtain ⟨oe, tp, heo, hcl, hod⟩ := hx.there
    have F1 := frBut (P := mods) F hk (fun q => (hmods _ q).2.1 rfl) (fun b hb => (hmods b hb).2.2)
    have F2 := frKeep F1 hx.keeps
    clear F N
    have hen : g.get? e = none := by
      cases z : g.get? e with
      | none => rfl
      | some o => have := F1.keep _ _ z; rw [hx.new] at this; cases this
    have heL : e ≠ L' := fun q => by
      obtain ⟨o, _, _, ho, _⟩ := F1.ns
      rw [← q, hx.new] at ho; cases ho
    refine caughtB (X := "ValueError") (Tn := "ValueError") B F2 X T heo hcl hod hen heL ?nx PyProof.Rows.Boot.«ValueError» (by decide) PySem.F.isExc_ValueError PySem.F.notTuple_ValueError (by rw [isSubtype_type]; kernel_rfl) (fun g3 h3 T3 K3 F3 B3 C3 n3 x3 => ?_) rfl rfl (by decide)
    case nx => k_is
    (repeat' ((fail_if_success (with_reducible first | show wpAny _ _ (call (Value.builtin "math.sumprod") _) _ _ _ | show wpAny _ _ (call (Value.builtin "math.fsum") _) _ _ _ | show wpAny _ _ (exec (Stmt.Try _ _ _ _ _) _) _ _ _ | show wpAny _ _ (exec (Stmt.Raise _ _ _) _) _ _ _)); first | (exfalso; omega) | (k_unfold; (try dsimp only)) | walk1 | (dsimp only; walk1) | (leave1; walk_say "STEP leave1"; try dsimp only)))
    refine raise_in_suite B3 F3 X T x3 rfl (C := 52) ?ex2 ?xq2 PySem.F.excBase_ValueError (fun h4 e2 T2 t2 vs2 C4 n4 n5 n6 x4 hv4 ht4 => ?_)
    case ex2 => k_is
    case xq2 => k_exc
    show wpAny _ _ (leaving _ _) _ _ _
    refine leave_noted rfl x4 (fun h5 C5 x5 => ?_)
    exact err _ e2 _ (.inl ⟨hne, rfl⟩) (out_down F1 (out_suite hx.new ((Chg.of_keeps hx.keeps).trans C3) C4 C5 n4 n5 n6 x4 x5 hv4 ht4)) rfl rfl rfl
end Mine
end
theorem Mine.anewFmW : True := by
  w_top off
  exact trivial
section
open PySem PySem.W PyProof.Rows PySem.Calls
set_option Elab.async false
set_option maxRecDepth 100000
set_option maxHeartbeats 8000000
set_option linter.unusedVariables false
namespace Mine

theorem out_sub {fs mods : List Addr} {g h h' : Heap} {e C : Addr} {words : Str} (k : ∀ b o, h.get? b = some o → g.get? b = some o) (O : Out fs mods g h' e C words) : Out fs mods h h' e C words := by
  have dn : ∀ {b : Addr}, g.get? b = none → h.get? b = none := fun {b} hb => by
    cases z : h.get? b with
    | none => rfl
    | some o => rw [k _ _ z] at hb; cases hb
  obtain ⟨T, t, vs, tk, x, hT, hv, ht, htn⟩ := O.trc
  exact ⟨⟨fun b o e m f => O.chg.keep b o (k b o e) m f, fun b o e m f => O.chg.slot b o (k b o e) m f⟩, dn O.fresh, T, t, vs, tk, x, dn hT, hv, ht, dn htn⟩

theorem fm_wl {w : World} {p : Program} {loose : List Str} {mean : ExcName → Option Value} {mg mb : Str → Option Value} {dp un : Nat} {gd : Option (List Code)} {cn : Str} {cs : Scope} {L a : Addr} {ccd : Value} {cl : List (Str × Addr)} {outer : List Env} {base : Heap} {s : Shared} {Q E : Value → Shared → Prop}
   (K0 : Below (ktrTop dp un gd cn cs L a ccd cl outer) base (envX cn cs L a ccd cl :: outer) s.heap) (X : (hd2.heap_39 w.params).In base) (T : Top p loose mean mg mb base)
   {x y : Addr} {vs ws : List Value} {ys : List Nm} {num : Nm} (hx : s.heap.IsList x vs.toArray) (hy : s.heap.IsList y ws.toArray)
   (hS : SumP PySem.Challenge.rw_kp0013_02.row.prog w vs ws num) (hnum : num.fits) (hN : NmsAre ws ys) (hfit : ∀ a ∈ ys, a.fits) (hlen : ys.length < sizeLine) (hok : fsumOk [] (ys.map Nm.real))
   (hroom : dp + 8 < recursionLimit) (hun : un + 8 < cLine)
   (ret : vs.length = ws.length → Float64.isZero (fsumP (ys.map Nm.real)) = false → ∀ s' t, (∀ b o, s.heap.get? b = some o → s'.heap.get? b = some o) → s'.gens = s.gens → s'.drawn = s.drawn → s'.os = s.os → Q (.float (Float64.div num.real (fsumP (ys.map Nm.real))) t) s')
   (err : ∀ s' e words, ((vs.length ≠ ws.length ∧ words = "data and weights must be the same length") ∨ (vs.length = ws.length ∧ Float64.isZero (fsumP (ys.map Nm.real)) = true ∧ words = "sum of weights must be non-zero")) →
     Out (frs (envX cn cs L a ccd cl :: outer)) [] s.heap s'.heap e 52 words → s'.gens = s.gens → s'.drawn = s.drawn → s'.os = s.os → E (.ref e) s') :
   wpAny (model PySem.Challenge.rw_kp0013_02.row.prog w) (ktrTop dp un gd cn cs L a ccd cl outer) (call (.ref 63) [.ref x, .ref y]) Q E s := by
  revert X; k_fill; intro X
  refine wpAny_call ?_
  refine' enter_cells2 (mods := []) (binds := [("data", .ref x), ("weights", .ref y)]) K0 (fun _ h => nomatch h) X T ?ho ?hcd ?hroom ?hbind ?hkind ?hnd ?_ ?c1 ?c2 ?c3
  case ho => k_is
  case hcd => k_is
  case hroom => ktr_room
  case hbind => exact BindsTo.of_defaults (T := 56) rfl ((X.keeps K0.stays) 56 _ (by k_is)) rfl rfl rfl
  case hkind => exact rfl
  case hnd => decide +kernel
  case c1 => exact rfl
  case c2 => exact rfl
  case c3 => exact rfl
  intro g L' h₁ tk cells F N Y B Xg Tg Kp hmg hkeep hL'
  k_cells Y
  rename_i oN dN
  (try simp only [List.cons_append, List.nil_append] at N)
  (try dsimp only)
  have Kp' : ∀ b o, s.heap.get? b = some o → g.get? b = some o := fun b o e => Kp b o nofun e
  replace hy := hy.at fun o e => Kp' _ _ e
  replace hx := hx.at fun o e => Kp' _ _ e
  have hid := And.intro X T
  clear K0 X T
  (repeat' ((fail_if_success (with_reducible first | show wpAny _ _ (call (Value.builtin "math.sumprod") _) _ _ _ | show wpAny _ _ (call (Value.builtin "math.fsum") _) _ _ _ | show wpAny _ _ (exec (Stmt.Try _ _ _ _ _) _) _ _ _ | show wpAny _ _ (execs [Stmt.Try _ _ _ _ _, _, _, _] _) _ _ _ | show wpAny _ _ (exec (Stmt.Raise _ _ _) _) _ _ _)); first | (exfalso; omega) | (k_unfold; (try dsimp only)) | walk1 | (dsimp only; walk1) | (leave1; walk_say "STEP leave1"; try dsimp only)))
  rename Fr _ _ _ _ => F
  rename News _ _ _ _ => N
  refine' kia_tup kitx_list (X := fun a o e => F.keep _ _ (Xg a o e)) ?isP ?isT ?isE ?isN ?_
  case isP =>
    obtain ⟨o, ho, hc, _⟩ := id hy
    exact ⟨o, F.keep _ _ ho, hc⟩
  case isT => kit_tp
  case isE => kit_is
  case isN => kit_nb
  intro tk1
  (repeat' ((fail_if_success (with_reducible first | show wpAny _ _ (call (Value.builtin "math.sumprod") _) _ _ _ | show wpAny _ _ (call (Value.builtin "math.fsum") _) _ _ _ | show wpAny _ _ (exec (Stmt.Try _ _ _ _ _) _) _ _ _ | show wpAny _ _ (execs [Stmt.Try _ _ _ _ _, _, _, _] _) _ _ _ | show wpAny _ _ (exec (Stmt.Raise _ _ _) _) _ _ _)); first | (exfalso; omega) | (k_unfold; (try dsimp only)) | walk1 | (dsimp only; walk1) | (leave1; walk_say "STEP leave1"; try dsimp only)))
  dsimp only
  rename Fr _ _ _ _ => F
  rename News _ _ _ _ => N
  refine fm_tail (I := L' + 1) (J := L' + 1) (oI := oN) (oJ := oN) (mods := []) rfl rfl rfl rfl rfl B hid.1 hid.2 F rfl rfl (newsSub N (by intro q hq; simp only [List.mem_cons, List.not_mem_nil, or_false] at hq; rcases hq with rfl | rfl <;> simp)) (fun _ h => nomatch h)
    (fun h' _ k => .list (hx.at fun o e => k _ _ e)) (fun h' _ k => hy.at fun o e => k _ _ e) hS hnum hN hfit hlen hok hroom hun ?ret ?err
  case ret => exact fun heq hz s' t k g1 d1 o1 => ret heq hz s' t (fun b o e => k b o (Kp' b o e)) g1 d1 o1
  case err => exact fun s' e words hc O g1 d1 o1 => err s' e words hc (out_sub Kp' O) g1 d1 o1
end Mine
end
theorem Mine.anewFmN : True := by
  w_top off
  exact trivial
section
open PySem PySem.W PyProof.Rows PySem.Calls
set_option Elab.async false
set_option maxRecDepth 100000
set_option maxHeartbeats 8000000
set_option linter.unusedVariables false
namespace Mine

theorem fl_over_div {prog : Program} {w : World} {A : Around} {E : Value → Shared → Prop} {s : Shared} {Q : Value → Shared → Prop} {D : UInt64} {t u : Tok} {n : Nat} (hA : A.handled = none) (h0 : (n : Int) ≠ 0) (hn : n ≤ 1000)
    (h : ∀ tk, Q (.float (Float64.div D (Float64.ofInt n)) tk) { s with toks := s.toks + 1 }) : wpAny (model prog w) A (binaryOp .Div (.float D t) (.int n u)) Q E s :=
  Flt.truediv_fi hA (fun q => absurd q (over_big (by rw [Int.natAbs_natCast]; omega))) (fun q => absurd q h0) fun _ _ => h _

theorem fm_nl {w : World} {p : Program} {loose : List Str} {mean : ExcName → Option Value} {mg mb : Str → Option Value} {dp un : Nat} {gd : Option (List Code)} {cn : Str} {cs : Scope} {L a : Addr} {ccd : Value} {cl : List (Str × Addr)} {outer : List Env} {base : Heap} {s : Shared} {Q E : Value → Shared → Prop}
   (K0 : Below (ktrTop dp un gd cn cs L a ccd cl outer) base (envX cn cs L a ccd cl :: outer) s.heap) (X : (hd2.heap_39 w.params).In base) (T : Top p loose mean mg mb base)
   {x : Addr} {vs : List Value} {xs : List Nm} (hx : s.heap.IsList x vs.toArray) (hN : NmsAre vs xs) (hfit : ∀ a ∈ xs, a.fits) (hlen : xs.length ≤ 1000) (hok : fsumOk [] (xs.map Nm.real))
   (hroom : dp + 8 < recursionLimit) (hun : un + 8 < cLine)
   (ret : 0 < vs.length → ∀ s' t, (∀ b o, s.heap.get? b = some o → s'.heap.get? b = some o) → s'.gens = s.gens → s'.drawn = s.drawn → s'.os = s.os → Q (.float (Float64.div (fsumP (xs.map Nm.real)) (Float64.ofInt vs.length)) t) s')
   (err : ∀ s' e, vs.length = 0 → Out (frs (envX cn cs L a ccd cl :: outer)) [] s.heap s'.heap e 52 "fmean requires at least one data point" → s'.gens = s.gens → s'.drawn = s.drawn → s'.os = s.os → E (.ref e) s') :
   wpAny (model PySem.Challenge.rw_kp0013_02.row.prog w) (ktrTop dp un gd cn cs L a ccd cl outer) (call (.ref 63) [.ref x, .none]) Q E s := by
  revert X; k_fill; intro X
  refine wpAny_call ?_
  refine' enter_cells2 (mods := []) (binds := [("data", .ref x), ("weights", .none)]) K0 (fun _ h => nomatch h) X T ?ho ?hcd ?hroom ?hbind ?hkind ?hnd ?_ ?c1 ?c2 ?c3
  case ho => k_is
  case hcd => k_is
  case hroom => ktr_room
  case hbind => exact BindsTo.of_defaults (T := 56) rfl ((X.keeps K0.stays) 56 _ (by k_is)) rfl rfl rfl
  case hkind => exact rfl
  case hnd => decide +kernel
  case c1 => exact rfl
  case c2 => exact rfl
  case c3 => exact rfl
  intro g L' h₁ tk cells F N Y B Xg Tg Kp hmg hkeep hL'
  k_cells Y
  rename_i oN dN
  (try simp only [List.cons_append, List.nil_append] at N)
  (try dsimp only)
  have Kp' : ∀ b o, s.heap.get? b = some o → g.get? b = some o := fun b o e => Kp b o nofun e
  replace hx := hx.at fun o e => Kp' _ _ e
  have hid := And.intro X T
  have hl := hN.1
  clear K0 X T
  (repeat' ((fail_if_success (with_reducible first | show wpAny _ _ (call (Value.builtin "len") _) _ _ _ | show wpAny _ _ (call (Value.builtin "math.fsum") _) _ _ _ | show wpAny _ _ (exec (Stmt.Try _ _ _ _ _) _) _ _ _ | show wpAny _ _ (binaryOp _ _ _) _ _ _ | show wpAny _ _ (exec (Stmt.Raise _ _ _) _) _ _ _)); first | (exfalso; omega) | (k_unfold; (try dsimp only)) | walk1 | (dsimp only; walk1) | (leave1; walk_say "STEP leave1"; try dsimp only)))
  refine wpAny_Try_except ?_
  (repeat' ((fail_if_success (with_reducible first | show wpAny _ _ (call (Value.builtin "len") _) _ _ _ | show wpAny _ _ (call (Value.builtin "math.fsum") _) _ _ _ | show wpAny _ _ (exec (Stmt.Try _ _ _ _ _) _) _ _ _ | show wpAny _ _ (binaryOp _ _ _) _ _ _ | show wpAny _ _ (exec (Stmt.Raise _ _ _) _) _ _ _)); first | (exfalso; omega) | (k_unfold; (try dsimp only)) | walk1 | (dsimp only; walk1) | (leave1; walk_say "STEP leave1"; try dsimp only)))
  rename Fr _ _ _ _ => F
  refine call_len_list (hx.at fun _ e => F.keep _ _ e) (by simp; omega) ?_
  simp only [List.size_toArray]
  (repeat' ((fail_if_success (with_reducible first | show wpAny _ _ (call (Value.builtin "len") _) _ _ _ | show wpAny _ _ (call (Value.builtin "math.fsum") _) _ _ _ | show wpAny _ _ (exec (Stmt.Try _ _ _ _ _) _) _ _ _ | show wpAny _ _ (binaryOp _ _ _) _ _ _ | show wpAny _ _ (exec (Stmt.Raise _ _ _) _) _ _ _)); first | (exfalso; omega) | (k_unfold; (try dsimp only)) | walk1 | (dsimp only; walk1) | (leave1; walk_say "STEP leave1"; try dsimp only)))
  rename Fr _ _ _ _ => F
  rename News _ _ _ _ => N
  refine fsum_src rfl (.list (hx.at fun _ e => F.keep _ _ e)) hN hfit (Nat.lt_of_le_of_lt hlen (by decide)) hok (fun h5 tk5 t5 k5 => ?_)
  replace F := frKeep F fun b o e => k5 b o (by first | ((repeat (first | exact List.mem_cons_self | apply List.mem_cons_of_mem)); done) | simp) e
  replace N := newsKeep N fun b o e => k5 b o (by first | ((repeat (first | exact List.mem_cons_self | apply List.mem_cons_of_mem)); done) | simp) e
  generalize fsumP (List.map Nm.real xs) = D at *
  (repeat' ((fail_if_success (with_reducible first | show wpAny _ _ (call (Value.builtin "len") _) _ _ _ | show wpAny _ _ (call (Value.builtin "math.fsum") _) _ _ _ | show wpAny _ _ (exec (Stmt.Try _ _ _ _ _) _) _ _ _ | show wpAny _ _ (binaryOp _ _ _) _ _ _ | show wpAny _ _ (exec (Stmt.Raise _ _ _) _) _ _ _)); first | (exfalso; omega) | (k_unfold; (try dsimp only)) | walk1 | (dsimp only; walk1) | (leave1; walk_say "STEP leave1"; try dsimp only)))
  · rename Fr _ _ _ _ => F
    rename ((vs.length : Int) ≠ 0) => hn0
    refine fl_over_div rfl hn0 (by omega) (fun tk6 => ?_)
    (repeat' ((fail_if_success (with_reducible first | show wpAny _ _ (call (Value.builtin "len") _) _ _ _ | show wpAny _ _ (call (Value.builtin "math.fsum") _) _ _ _ | show wpAny _ _ (exec (Stmt.Try _ _ _ _ _) _) _ _ _ | show wpAny _ _ (binaryOp _ _ _) _ _ _ | show wpAny _ _ (exec (Stmt.Raise _ _ _) _) _ _ _)); first | (exfalso; omega) | (k_unfold; (try dsimp only)) | walk1 | (dsimp only; walk1) | (leave1; walk_say "STEP leave1"; try dsimp only)))
    exact ret (by omega) _ _ (fun b o e => F.keep _ _ (Kp' b o e)) rfl rfl rfl
  · rename Fr _ _ _ _ => F
    rename ((vs.length : Int) = 0) => hn0
    refine raise_words F Xg (topRead_of Tg) (C := 52) ?ex ?xq PySem.F.excBase_ValueError (fun h6 e hm => ?_) rfl rfl (by decide)
    case ex => k_is
    case xq => k_exc
    show wpAny _ _ (leaving _ _) _ _ _
    refine leave_made B F hm (fun h7 O => ?_) rfl
    exact err _ e (by omega) (out_sub Kp' (out_down F O)) rfl rfl rfl
end Mine
end
theorem Mine.anewE5 : True := by
  w_top off
  exact trivial
section
open PySem PySem.W PySem.Calls PyProof.Rows
set_option Elab.async false
set_option maxRecDepth 100000
set_option linter.unusedVariables false
namespace Mine

theorem li_ga : entryFor table "object.__getattribute__" = some Builtin.«object.__getattribute__» := entryFor_of_tree (by kernel_rfl)
theorem li_class : typeLookup (.type "list_iterator") "__class__" = pure (some (.builtin "object.__class__")) := by rw [typeLookup_type, builtinLookup_eq_fast]; kernel_rfl
theorem li_owner : isSubtype (.type "list_iterator") (.type (".".intercalate ("object.__class__".cutAt '.').dropLast)) = pure true := by
  rw [F.owner_object_class, isSubtype_type]; kernel_rfl
theorem li_slot : Slot "list_iterator" "__getattribute__" "object.__getattribute__" :=
  .of (owner := "object") (n := "__getattribute__") (by rw [typeLookup_type, builtinLookup_eq_fast]; kernel_rfl) (by decide +kernel) (by decide +kernel) (by decide +kernel)
    (by first | exact .inl (by decide +kernel) | exact .inr (by decide +kernel)) (by rw [isSubtype_type]; kernel_rfl)
theorem li_args (a b : Value) : argsOk "object.__getattribute__" ⟨[a, b], []⟩ := by unfold argsOk; kernel_rfl
theorem li_no_len : typeLookup (.type "list_iterator") "__len__" = pure none := by rw [typeLookup_type, builtinLookup_eq_fast]; kernel_rfl
theorem li_hint : typeLookup (.type "list_iterator") "__length_hint__" = pure (some (.builtin "list_iterator.__length_hint__")) := by rw [typeLookup_type, builtinLookup_eq_fast]; kernel_rfl

section
variable {prog : Program} {w : World} {A : Around} {E : Value → Shared → Prop} {h : Heap} {g : Array GenState} {d : Drawn} {t : Nat} {os : OsState} {a : Addr} {o : Obj}

theorem li_get {R : Result → Shared → Prop} (hx : h.get? a = some o) (hc : o.cls = .type "list_iterator") (hq : R (.ok (.ret (.type "list_iterator"))) ⟨h, g, d, t, os⟩) :
    codeAny (model prog w) A (.call (.builtin "getset_descriptor.__get__") ⟨[.builtin "object.__class__", .ref a, .type "list_iterator"], []⟩) R ⟨h, g, d, t, os⟩ := by
  have hT : (⟨h, g, d, t, os⟩ : Shared).TypeIs (.ref a) "list_iterator" := ⟨_, hx, hc⟩
  have hT5 : (⟨h, g, d, t, os⟩ : Shared).TypeIs (.builtin "object.__class__") "getset_descriptor" := F.typeOf_object_class
  have f8 := li_owner
  refine codeAny_call_builtin F.slot_gs_get.plain F.entry_gs_get (F.slot_gs_get.check _ _ _ _ _ _ _ _ hT5 (F.args_gs_get _ _ _) ?_)
  repeat (any_goals (first | assumption | wp_step))
  refine ⟨Code.quiet_builtin _ (by decide +kernel), codeAny_builtin F.entry_object_class ?_⟩
  repeat (any_goals (first | assumption | wp_step))
theorem li_entry {tk : Tok} {Q : Fin → Shared → Prop} (hx : h.get? a = some o) (hc : o.cls = .type "list_iterator") (hq : Q (.done (.ret (.type "list_iterator"))) ⟨h, g, d, t, os⟩) :
    wpAny (model prog w) A (Builtin.«object.__getattribute__» ⟨[.ref a, .str "__class__" tk], []⟩) Q E ⟨h, g, d, t, os⟩ := by
  have hT : (⟨h, g, d, t, os⟩ : Shared).TypeIs (.ref a) "list_iterator" := ⟨_, hx, hc⟩
  have hT5 : (⟨h, g, d, t, os⟩ : Shared).TypeIs (.builtin "object.__class__") "getset_descriptor" := F.typeOf_object_class
  have f4 := li_class
  have f5 := F.typeOf_object_class
  have f6 := F.slot_gs_get.lookup
  have f7 := F.slot_gs_set.lookup
  repeat (any_goals (first | assumption | wp_step))
  refine li_get hx hc ?_
  repeat (any_goals (first | assumption | wp_step))
theorem li_call {tk : Tok} {R : Result → Shared → Prop} (hx : h.get? a = some o) (hc : o.cls = .type "list_iterator") (hq : R (.ok (.ret (.type "list_iterator"))) ⟨h, g, d, t, os⟩) :
    codeAny (model prog w) A (.call (.builtin "object.__getattribute__") ⟨[.ref a, .str "__class__" tk], []⟩) R ⟨h, g, d, t, os⟩ :=
  codeAny_call_builtin li_slot.plain li_ga (li_slot.check _ _ _ _ _ _ _ _ (show (⟨h, g, d, t, os⟩ : Shared).TypeIs (.ref a) "list_iterator" from ⟨_, hx, hc⟩) (li_args _ _) (li_entry hx hc hq))
theorem li_by {tk : Tok} {Q : Value → Shared → Prop} (hx : h.get? a = some o) (hc : o.cls = .type "list_iterator") (hq : Q (.type "list_iterator") ⟨h, g, d, t, os⟩) : wpAny (model prog w) A (getAttrBy (.ref a) (.str "__class__" tk) false) Q E ⟨h, g, d, t, os⟩ := by
  have hT : (⟨h, g, d, t, os⟩ : Shared).TypeIs (.ref a) "list_iterator" := ⟨_, hx, hc⟩
  have f2 := li_slot.lookup
  have f3 := li_slot.bind (.ref a)
  repeat (any_goals (first | assumption | wp_step))
  refine li_call hx hc ?_
  repeat (any_goals (first | assumption | wp_step))
theorem li_attr {Q : Option Value → Shared → Prop} (hx : h.get? a = some o) (hc : o.cls = .type "list_iterator") (hq : Q (some (.type "list_iterator")) ⟨h, g, d, t + 1, os⟩) : wpAny (model prog w) A (getAttr? (.ref a) "__class__") Q E ⟨h, g, d, t, os⟩ := by
  unfold getAttr? getAttrBy?
  repeat (any_goals (first | assumption | with_reducible apply li_by hx hc | wp_step))
end
theorem kitx_listiter {K : Frag} {a : Addr} : KitX K (.ref a) (.type "list_iterator") (KitAt a "list_iterator") := kitx_of kitAt_ty (fun {_ _ _ _ _ s} p k => by obtain ⟨h, g, d, t, os⟩ := s; obtain ⟨o, h1, h2⟩ := p; exact li_attr h1 h2 k)

section
variable {prog : Program} {w : World} {A : Around} {E : Value → Shared → Prop} {s : Shared}

/-- list() of an iterator over a list -/
theorem call_list_listiter {Q : Value → Shared → Prop} {J r : Addr} {items : Array Value} (hA : A.handled = none) (hJ : s.heap.IsListIter J r 0) (hr : s.heap.IsList r items) (hne : r ≠ J) (hlen : items.size ≤ sizeLine)
    (hQ : ∀ h' tk D, s.heap.get? D = none → h'.IsList D items → (∀ b o, b ≠ J → s.heap.get? b = some o → h'.get? b = some o) → Q (.ref D) { s with heap := h', toks := tk }) :
    wpAny (model prog w) A (call (.type "list") [.ref J]) Q E s := by
  have hJlt : J < s.heap.objs.size := by obtain ⟨_, e, _⟩ := hJ; exact Heap.lt_size e
  have hrlt : r < s.heap.objs.size := by obtain ⟨_, e, _⟩ := hr; exact Heap.lt_size e
  generalize hSS : s.heap.objs.size = S at *
  have hSJ : S ≠ J := Nat.ne_of_gt hJlt
  have hSr : S ≠ r := Nat.ne_of_gt hrlt
  have hSf : S ∉ [J, r] := by simp [hSJ, hSr]
  have W := (Walks.list (prog := prog) (w := w) (A := A.in1.in1) hA J r hne items).toS
  refine callType_codes (Q₁ := fun obj s₁ => obj = .ref S ∧ s₁ = { s with heap := s.heap.push { cls := .type "list", data := .seq #[] } }) F.called_list (F.typeCall_list_1 _) F.entry_list_init
    (code_list_new _ ⟨by rw [hSS], rfl⟩) fun obj s₁ h₁ => ?_
  obtain ⟨rfl, rfl⟩ := h₁
  have hS : (s.heap.push { cls := .type "list", data := .seq #[] }).get? S = some { cls := .type "list", data := .seq #[] } := by rw [← hSS]; exact Heap.get?_push_size _ rfl
  refine ⟨⟨_, hS, rfl⟩, F.args_list_init_2 _ _, ?_⟩
  show wpAny _ _ (do let old ← Builtin.List.listItems (.ref S); Builtin.List.listUpdate (.ref S) (fun _ => #[]); letGo old.toList.reverse; Builtin.List.listExtendWith (.ref S) (.ref J) .none) _ _ _
  refine wpAny_bind ?_
  unfold Builtin.List.listItems
  refine wpAny_bind (wpAny_seqItems hS rfl (wpAny_pure ?_))
  show wpAny _ _ (updateSeq S (fun _ => #[]) >>= fun _ => letGo (#[] : Array Value).toList.reverse >>= fun _ => Builtin.List.listExtendWith (.ref S) (.ref J) .none) _ _ _
  refine wpAny_bind (wpAny_updateSeq hS rfl ?_)
  have hS₂ := Heap.get?_update_self (Obj.mapSeq (fun _ => (#[] : Array Value))) hS rfl
  have oth : ∀ b o, b ≠ S → s.heap.get? b = some o → ((s.heap.push { cls := .type "list", data := .seq #[] }).update S (Obj.mapSeq (fun _ => (#[] : Array Value)))).get? b = some o :=
    fun b o hb e => (Heap.get?_update_other _ _ (Ne.symm hb)).trans (Heap.get?_push_of_some _ e)
  refine wpAny_bind (wpAny_letGo ?_)
  generalize (s.heap.push { cls := .type "list", data := .seq #[] }).update S (Obj.mapSeq (fun _ => (#[] : Array Value))) = h₂ at *
  have hJ₂ : h₂.IsListIter J r 0 := hJ.at fun o e => oth J o (Ne.symm hSJ) e
  have hr₂ : h₂.IsList r items := hr.at fun o e => oth r o (Ne.symm hSr) e
  obtain ⟨oJ, hoJ, hcJ, hdJ⟩ := id hJ₂
  have hTJ : (⟨h₂, s.gens, s.drawn, s.toks, s.os⟩ : Shared).TypeIs (.ref J) "list_iterator" := ⟨_, hoJ, hcJ⟩
  unfold Builtin.List.listExtendWith
  refine wpAny_bind (wpAny_typeOf hTJ ?_)
  have h1 : Builtin.List.listSameRef (.ref S) (.ref J) = false := by simp [Builtin.List.listSameRef, hSJ]
  have h2 : (Value.type "list_iterator" == Value.type "list") = false := by decide
  have h3 : (Value.type "list_iterator" == Value.type "tuple") = false := by decide
  simp only [h1, h2, h3, Bool.or_false, Bool.false_eq_true, if_false]
  refine wpAny_bind (wpAny_pyIter_listiter hJ₂ ?_)
  refine wpAny_bind (wpAny_holding ?_)
  unfold Builtin.List.listLengthHint
  refine wpAny_bind (wpAny_specialOf hTJ li_no_len ?_)
  show wpAny _ _ (specialOf (Value.ref J) (Str.ofString "__length_hint__") >>= _) _ _ _
  refine wpAny_bind (wpAny_specialOf hTJ li_hint ?_)
  generalize hid : ("list_iterator.__length_hint__" : String) = id0
  wp_delta
  rw [show splitId id0 = some ("list_iterator", "__length_hint__") from by subst hid; decide +kernel]
  subst hid
  refine wpAny_bind (wpAny_isInstance (T := "list_iterator") (b := true) hTJ (by rw [isSubtype_type]; kernel_rfl) ?_)
  refine wpAny_ite_split (fun hab => absurd hab (by decide)) (fun _ => ?_)
  refine wpAny_ite_split (fun _ => ?_) (fun hab => absurd (by decide +kernel) hab)
  refine wpAny_ite_split (fun hab => absurd hab (by decide +kernel)) (fun _ => ?_)
  refine wpAny_pure ?_
  have key : ∀ (h : Heap) (c₁ : Nat), (∀ b o, b ≠ S → h₂.get? b = some o → h.get? b = some o) → h.get? S = some { cls := .type "list", data := .seq #[] c₁ } →
      codeAny (model prog w) A.in1 (.builtin "list.extend.loop" ⟨[.ref S, .ref J, .none], []⟩) (wants (fun r s₂ => r = .none ∧ Q (.ref S) s₂) E) { s with heap := h } := by
    intro h c₁ hk hS₁
    refine codeAny_extend_loopS W hlen S hSf .none items.size 0 _ #[] c₁ (by omega) (Nat.zero_le _) ⟨hJ₂.at fun o e => hk J o (Ne.symm hSJ) e, hr₂.at fun o e => hk r o (Ne.symm hSr) e⟩ hS₁ (ItemsOf.nil _) fun s' acc' c' hm hS' hacc => ?_
    rw [Moved.eq_with hm]
    have hacc2 : acc' = items := by
      refine Array.ext (by rw [hacc.1]) fun i h1 h2 => ?_
      have := hacc.2 i acc'[i] (Array.getElem?_eq_getElem h1)
      exact (Option.some.inj ((Array.getElem?_eq_getElem h2).symm.trans this)).symm
    refine ⟨rfl, hQ _ _ S (Heap.get?_none_of_le (Nat.le_of_eq hSS)) ⟨_, hS', rfl, _, by rw [hacc2]⟩ fun b o hb e => hm.heap b o (fun q => ?_) (hk b o (fun q => ?_) (oth b o (fun q => ?_) e))⟩
    · rcases List.mem_cons.mp q with q | q
      · rw [q, Heap.get?_none_of_le (Nat.le_of_eq hSS)] at e; cases e
      · exact hb (List.mem_singleton.mp q)
    · rw [q, Heap.get?_none_of_le (Nat.le_of_eq hSS)] at e; cases e
    · rw [q, Heap.get?_none_of_le (Nat.le_of_eq hSS)] at e; cases e
  refine wpAny_ite_split (fun _ => ?_) (fun _ => wpAny_pure ⟨plainId_quiet F.plain_extend_loop _, key _ _ (fun b o _ e => e) hS₂⟩)
  refine wpAny_bind (wpAny_rule ?_)
  refine wpAny_bind ?_
  show wpAny _ _ (updateSeq S (·.push .none) >>= fun _ => updateSeq S (·.pop)) _ _ _
  refine wpAny_bind (wpAny_updateSeq hS₂ rfl ?_)
  have hS₃ := Heap.get?_update_self (Obj.mapSeq (·.push Value.none)) hS₂ rfl
  refine wpAny_updateSeq (hz := by seq_fits) hS₃ rfl ?_
  have hS₄ := Heap.get?_update_self (Obj.mapSeq (·.pop)) hS₃ rfl
  exact wpAny_pure ⟨plainId_quiet F.plain_extend_loop _, key _ _ (fun b o hb e => (Heap.get?_update_other _ _ (Ne.symm hb)).trans ((Heap.get?_update_other _ _ (Ne.symm hb)).trans e)) hS₄⟩
end
end Mine
end
theorem Mine.anewE6 : True := by
  w_top off
  exact trivial
section
open PySem PySem.W PySem.Calls PyProof.Rows
set_option Elab.async false
set_option maxRecDepth 100000
set_option linter.unusedVariables false
namespace Mine
section
variable {prog : Program} {w : World} {A : Around} {E : Value → Shared → Prop} {s : Shared}
/-- an iterator over a list has no length -/
theorem call_len_listiter {Q : Value → Shared → Prop} {I r : Addr} {i : Nat} (hA : A.handled = none) (hI : s.heap.IsListIter I r i)
    (hE : ∀ h' tk e, Heap.NewExc s.heap h' e "TypeError" → E (.ref e) { s with heap := h', toks := tk }) : wpAny (model prog w) A (call (.builtin "len") [.ref I]) Q E s := by
  have hT : s.TypeIs (.ref I) "list_iterator" := hI.typeIs
  refine Calls.call_function_entry kind_len plain_len entry_len (args_len1 _) ?_
  unfold Builtin.«len»
  refine wpAny_bind (m := oneArg "len" _) (wpAny_pure ?_)
  refine wpAny_bind (m := callSpecial? (.ref I) (Str.ofString "__len__")) (wpAny_callSpecial?_none (name := Str.ofString "__len__") hT li_no_len ?_)
  show wpAny _ _ (rule _ >>= _) _ _ _
  refine wpAny_bind (wpAny_rule ?_)
  refine wpAny_bind (wpAny_typeNameOf' hT (by decide) ?_)
  exact wpAny_raiseErrorMade plainExc_TypeError hA (fun h' tk e hx => hE h' tk e hx) (by decide +kernel)
end
end Mine
end
theorem Mine.anewFmG : True := by
  w_top off
  exact trivial
section
open PySem PySem.W PyProof.Rows PySem.Calls
set_option Elab.async false
set_option maxRecDepth 100000
set_option maxHeartbeats 8000000
set_option linter.unusedVariables false
namespace Mine

/-- a statement within an if of a top def -/
def ifB (n i j : Nat) : Stmt := match defB n i with
  | .If _ b _ _ => (match List.drop j b with | x :: _ => x | _ => .Pass ⟨0, 0, 0, 0⟩)
  | _ => .Pass ⟨0, 0, 0, 0⟩

theorem frMovedK {B0 : Addr} {wr : List Addr} {G : Array GenState → Array GenState → Prop} {g : Heap} {s s' : Shared} {L : Addr} {m : Str → Option Value} (F : Fr g L s.heap m) (M : MovedK B0 wr G s s') (hL : L ∉ wr) (hB : L < B0) (hw : ∀ b ∈ wr, g.get? b = none) : Fr g L s'.heap m := by
  obtain ⟨oL, es, ep, hLo, hd, hr⟩ := F.ns
  exact ⟨⟨oL, es, ep, M.heap _ _ hL (.inl hB) hLo, hd, hr⟩, fun b o e => M.heap b o (fun q => by rw [hw b q] at e; cases e) (.inl (Nat.lt_trans (Nat.lt_of_lt_of_le (Heap.lt_size e) F.above) hB)) (F.keep b o e), F.above⟩

theorem fm_gtail {w : World} {p : Program} {loose : List Str} {mean : ExcName → Option Value} {mg mb : Str → Option Value} {dp un : Nat} {gd : Option (List Code)} {cn : Str} {cs : Scope} {L a : Addr} {ccd : Value} {cl : List (Str × Addr)} {outer : List Env} {base g : Heap} {s : Shared} {Q : Flow → Shared → Prop} {E : Value → Shared → Prop} {L' : Addr} {m : Str → Option Value} {S : Scope} {b1 b2 b3 : Stmt} (eS : S = defS 3) (e1 : b1 = ifB 3 0 1) (e2 : b2 = ifB 3 0 2) (e3 : b3 = ifB 3 0 3)
   (B : Below (ktrTop dp un gd cn cs L a ccd cl outer) base (envX cn cs L a ccd cl :: outer) g) (X : (hd2.heap_39 w.params).In base) (T : Top p loose mean mg mb base)
   {ga C I B0 P1 P2 : Addr} {gn : Nat} {oP1 oP2 : Obj} {vs : List Value} {xs : List Nm}
   (NP : News g L' s.heap [(P1, oP1), (P2, oP2)]) (hP1 : P1 ∉ [C, L' + 1, I] ∧ P1 < B0) (hP2 : P2 ∉ [C, L' + 1, I] ∧ P2 < B0)
   (F : Fr g L' s.heap m) (hm1 : m "data" = some (.ref ga)) (nN : g.get? (L' + 1) = none) (hG : CntAt PySem.Challenge.rw_kp0013_02.row.prog w ((ktrTop dp un gd cn cs L a ccd cl outer).deeper (envOfC "fmean" S L' 63 (.ref 62))).in1 ga gn B0 [C, L' + 1, I] (L' + 1) vs.length (fun i v => vs.toArray[i]? = some v) 0 s)
   (hgaw : ga ∉ [C, L' + 1, I]) (hsw : cStatics ∉ [C, L' + 1, I]) (hgaB : ga < B0) (hsB : cStatics < B0) (hLw : L' ∉ [C, L' + 1, I]) (hLB : L' < B0) (hw : ∀ b ∈ [C, L' + 1, I], g.get? b = none ∧ b < s.heap.objs.size)
   (hN : NmsAre vs xs) (hfit : ∀ a ∈ xs, a.fits) (hlen : xs.length ≤ 1000) (hok : fsumOk [] (xs.map Nm.real))
   (hroom : dp + 8 < recursionLimit) (hun : un + 8 < cLine)
   (ret : 0 < vs.length → ∀ s' t, (∀ b o, g.get? b = some o → s'.heap.get? b = some o) → s'.heap.get? P1 = some oP1 → s'.heap.get? P2 = some oP2 → GBare s.gens s'.gens → s'.drawn = s.drawn → s'.os = s.os → Q (.ret (.float (Float64.div (fsumP (xs.map Nm.real)) (Float64.ofInt vs.length)) t)) s')
   (err : ∀ s' e, vs.length = 0 → Out (frs (envX cn cs L a ccd cl :: outer)) [] g s'.heap e 52 "fmean requires at least one data point" → s'.heap.get? P1 = some oP1 → s'.heap.get? P2 = some oP2 → GBare s.gens s'.gens → s'.drawn = s.drawn → s'.os = s.os → E (.ref e) s') :
   wpAny (model PySem.Challenge.rw_kp0013_02.row.prog w) ((ktrTop dp un gd cn cs L a ccd cl outer).deeper (envOfC "fmean" S L' 63 (.ref 62))) (execs [b1, b2, b3] (envOfC "fmean" S L' 63 (.ref 62))) Q
     (fun e s' => wpAny (model PySem.Challenge.rw_kp0013_02.row.prog w) ((ktrTop dp un gd cn cs L a ccd cl outer).deeper (envOfC "fmean" S L' 63 (.ref 62))) (leaving (envOfC "fmean" S L' 63 (.ref 62)) e) (fun _ s'' => E e s'') (fun e' s'' => E e' s'') s') s := by
  have W := walks_cnt (prog := PySem.Challenge.rw_kp0013_02.row.prog) (w := w) (A := ((ktrTop dp un gd cn cs L a ccd cl outer).deeper (envOfC "fmean" S L' 63 (.ref 62))).in1) rfl ga gn B0 [C, L' + 1, I] (L' + 1) vs.length (fun i v => vs.toArray[i]? = some v) hgaw hsw hgaB hsB (by show dp + 1 < recursionLimit; omega)
  revert X; k_fill; intro X
  have Xg := X.keeps B.stays
  have Tg := T.keeps B.stays
  conv at eS => rhs; whnf
  conv at e1 => rhs; whnf
  conv at e2 => rhs; whnf
  conv at e3 => rhs; whnf
  subst eS e1 e2 e3
  have hl := hN.1
  have pin : m = fun (z : Str) => if z = "data" then some (.ref ga) else m z := by
    funext z
    by_cases h : z = "data"
    · rw [if_pos h, h, hm1]
    · rw [if_neg h]
  rw [pin] at F
  have N := NP
  (repeat' ((fail_if_success (with_reducible first | show wpAny _ _ (call (Value.builtin "len") _) _ _ _ | show wpAny _ _ (call (Value.builtin "math.fsum") _) _ _ _ | show wpAny _ _ (exec (Stmt.Try _ _ _ _ _) _) _ _ _ | show wpAny _ _ (binaryOp _ _ _) _ _ _ | show wpAny _ _ (exec (Stmt.Raise _ _ _) _) _ _ _)); first | (exfalso; omega) | (k_unfold; (try dsimp only)) | walk1 | (dsimp only; walk1) | (leave1; walk_say "STEP leave1"; try dsimp only)))
  clear N
  rw [hl] at W hG ret err
  refine call_fsumK rfl W (fun i v hv => hN.2 i v (by simpa using hv)) hG (fun b hb => (hw b hb).2) (fun Q' h => wpAny_pyIter_gen hG.1 h) hfit (Nat.lt_of_le_of_lt hlen (by decide)) hok (fun s' t hf hm => ?_)
  have gb : GBare s.gens s'.gens := fun h => hm.gens.bare h
  have F1 := frMovedK F hm hLw hLB (fun b hb => (hw b hb).1)
  have dr := hm.drawn
  have os := hm.os
  obtain ⟨tn, oN, hoN, hdN⟩ := hf
  obtain ⟨h1, g1, d1, t1, o1⟩ := s'
  dsimp only at gb F1 dr os hoN hm
  have N1 : News g L' h1 [(L' + 1, oN), (P1, oP1), (P2, oP2)] := newsAdd (fun q hq => ⟨hm.heap _ _ (by
      simp only [List.mem_cons, List.not_mem_nil, or_false] at hq
      rcases hq with rfl | rfl
      · exact hP1.1
      · exact hP2.1) (.inl (by
      simp only [List.mem_cons, List.not_mem_nil, or_false] at hq
      rcases hq with rfl | rfl
      · exact hP1.2
      · exact hP2.2)) (NP q hq).1, (NP q hq).2⟩) hoN (Nat.succ_ne_self _) nN
  clear F W hG hm NP
  generalize fsumP (List.map Nm.real xs) = D at *
  (repeat' ((fail_if_success (with_reducible first | show wpAny _ _ (call (Value.builtin "len") _) _ _ _ | show wpAny _ _ (call (Value.builtin "math.fsum") _) _ _ _ | show wpAny _ _ (exec (Stmt.Try _ _ _ _ _) _) _ _ _ | show wpAny _ _ (binaryOp _ _ _) _ _ _ | show wpAny _ _ (exec (Stmt.Raise _ _ _) _) _ _ _)); first | (exfalso; omega) | (k_unfold; (try dsimp only)) | walk1 | (dsimp only; walk1) | (leave1; walk_say "STEP leave1"; try dsimp only)))
  · rename Fr _ _ _ _ => F
    rename ((xs.length : Int) ≠ 0) => hn0
    refine fl_over_div rfl hn0 hlen (fun tk6 => ?_)
    (repeat' ((fail_if_success (with_reducible first | show wpAny _ _ (call (Value.builtin "len") _) _ _ _ | show wpAny _ _ (call (Value.builtin "math.fsum") _) _ _ _ | show wpAny _ _ (exec (Stmt.Try _ _ _ _ _) _) _ _ _ | show wpAny _ _ (binaryOp _ _ _) _ _ _ | show wpAny _ _ (exec (Stmt.Raise _ _ _) _) _ _ _)); first | (exfalso; omega) | (k_unfold; (try dsimp only)) | walk1 | (dsimp only; walk1) | (leave1; walk_say "STEP leave1"; try dsimp only)))
    rename News _ _ _ _ => N
    exact ret (by omega) _ _ F.keep (N (P1, oP1) (by first | ((repeat (first | exact List.mem_cons_self | apply List.mem_cons_of_mem)); done) | simp)).1 (N (P2, oP2) (by first | ((repeat (first | exact List.mem_cons_self | apply List.mem_cons_of_mem)); done) | simp)).1 gb dr os
  · rename Fr _ _ _ _ => F
    rename News _ _ _ _ => N
    rename ((xs.length : Int) = 0) => hn0
    refine raise_words F Xg (topRead_of Tg) (C := 52) ?ex ?xq PySem.F.excBase_ValueError (fun h6 e hm => ?_) rfl rfl (by decide)
    case ex => k_is
    case xq => k_exc
    show wpAny _ _ (leaving _ _) _ _ _
    refine leave_made B F hm (fun h7 O => ?_) rfl
    have off : ∀ q ∈ [(P1, oP1), (P2, oP2)], h7.get? q.1 = some q.2 := fun q hq => O.chg.keep _ _ (N q (List.mem_cons_of_mem _ hq)).1 nofun fun z => by
      rcases List.mem_cons.mp z with z | z
      · exact (N q (List.mem_cons_of_mem _ hq)).2.1 z
      · exact news_off_frames B N q (List.mem_cons_of_mem _ hq) z
    exact err _ e (by omega) (out_down F O) (off (P1, oP1) (by first | ((repeat (first | exact List.mem_cons_self | apply List.mem_cons_of_mem)); done) | simp)) (off (P2, oP2) (by first | ((repeat (first | exact List.mem_cons_self | apply List.mem_cons_of_mem)); done) | simp)) gb dr os
end Mine
end
theorem Mine.anewE7 : True := by
  w_top off
  exact trivial
section
open PySem PySem.W PySem.Calls PyProof.Rows
set_option Elab.async false
set_option maxRecDepth 100000
set_option linter.unusedVariables false
namespace Mine
section
variable {prog : Program} {w : World} {A : Around} {E : Value → Shared → Prop} {s : Shared}

/-- a generator is made by a call of its def -/
theorem call_count {name qual : Str} {params : Arguments} {body : List Stmt} {scope : Scope} {doc pm ctv : Value} {c' f I cN : Addr} {Q : Value → Shared → Prop}
    (hroom : A.depth < recursionLimit) (ho : s.heap.get? f = some (fnMade name qual params body scope [("n", cN)] doc pm c' ctv)) (hcd : s.heap.CodeRec (.ref c') qual) (hlim : s.heap.NoLimit)
    (hbind : BindsTo s (fnX name qual params body scope [("n", cN)] .none .none doc pm none (.ref c') ctv) ⟨[.ref I], []⟩ [("iterable", .ref I)])
    (hcell : ∀ x ∈ scope.names, x.2 ≠ .cell) (hloc : scope.names.lookup ("iterable" : Str) = some .local) (hk : scope.kind = .function) (hco : scope.isCoroutine = false) (hgen : scope.isGenerator = true)
    (h : ∀ ga C oC oG h' tk, (∀ b o, s.heap.get? b = some o → h'.get? b = some o) → s.heap.get? C = none → s.heap.get? ga = none → C < ga → h'.get? C = some oC → h'.get? ga = some oG → (∀ H : Heap, H.get? C = some oC → H.Ns C (fun x => if x = "iterable" then some (.ref I) else none)) →
      (∀ H : Heap, H.get? ga = some oG → H.IsGen ga s.gens.size) → C < h'.objs.size → ga < h'.objs.size → s.heap.objs.size ≤ C →
      Q (.ref ga) { s with gens := s.gens.push (.fresh (.func body (envX qual scope C f (.ref c') [("n", cN)]))), toks := tk, heap := h' }) :
    wpAny (model prog w) A (call (.ref f) [.ref I]) Q E s := by
  refine wpAny_call (codeAny_call_generator (fd := fnX name qual params body scope [("n", cN)] .none .none doc pm none (.ref c') ctv) (body := body) hroom ho rfl hco hgen rfl hcd (hbind _ _ _ _ ?_))
  refine wpAny_newFunctionEnv hcell (by intro y hy; rw [List.mem_singleton.mp hy]; exact hloc) (fun h₁ hn hs => ?_) hk
  have e : (fun x : Str => ([(("iterable" : Str), Value.ref I)] : List (Str × Value)).reverse.lookup x) = fun x : Str => if x = ("iterable" : Str) then some (Value.ref I) else none := by
    funext y
    by_cases hy : y = "iterable"
    · subst hy; simp
    · have : (y == ("iterable" : Str)) = false := by simpa using hy
      simp [List.lookup, this, hy]
  rw [e] at hn
  have hsz : h₁.objs.size = s.heap.objs.size + 1 := by rw [hs.1, Heap.size_push]
  have keep : ∀ b o, s.heap.get? b = some o → h₁.get? b = some o := fun b o x => hs.extBut b o (Nat.ne_of_lt (Heap.lt_size x)) (Heap.get?_push_of_some _ x)
  obtain ⟨oC, es, ep, hoC, hdC, hrC⟩ := hn
  have hlt : s.heap.objs.size < h₁.objs.size := by rw [hsz]; exact Nat.lt_succ_self _
  refine ⟨hlim.keeps keep, ?_⟩
  dsimp only
  refine h h₁.objs.size s.heap.objs.size oC _ _ _ (fun b o x => Heap.get?_push_of_some _ (keep b o x)) (Heap.get?_none_of_le (Nat.le_refl _)) (Heap.get?_none_of_le (Nat.le_of_lt hlt)) hlt (Heap.get?_push_of_some _ hoC) (Heap.get?_push_size _ rfl) (fun H x => ⟨oC, es, ep, x, hdC, hrC⟩)
    (fun H x => ⟨_, _, _, x, rfl, rfl, rfl⟩) (by rw [Heap.size_push]; exact Nat.lt_succ_of_lt hlt) (by rw [Heap.size_push]; exact Nat.lt_succ_self _) (Nat.le_refl _)
end
end Mine
end
theorem Mine.anewFmH : True := by
  w_top off
  exact trivial
section
open PySem PySem.W PyProof.Rows PySem.Calls
set_option Elab.async false
set_option maxRecDepth 100000
set_option maxHeartbeats 8000000
set_option linter.unusedVariables false
namespace Mine

/-- the table of fmean's inner codes: none, or its generator's -/
def TabN (h : Heap) : Prop := ∃ ps, h.get? 58 = some (tabObj ps) ∧ (ps = #[] ∨ ∃ c' oc vs t, ps = #[rawInt 12, rawInt 12, .ref c'] ∧ h.get? c' = some oc ∧ oc.data = .fields vs ∧ vs[1]? = some (.str "fmean.<locals>.count" t))

theorem qn {L : Addr} : qualnameIn (envOfC "fmean" (defS 3) L 63 (.ref 62)) "count" "count" = "fmean.<locals>.count" := by
  show (if _ then _ else (Str.ofString "fmean" ++ Str.ofString ".<locals>.") ++ Str.ofString "count") = _
  have hk : (envOfC "fmean" (defS 3) L 63 (.ref 62)).kindOf "count" = some .local := rfl
  rw [if_neg (by rw [hk]; decide)]
  decide +kernel
theorem not3 {a x y z : Nat} (h1 : a ≠ x) (h2 : a ≠ y) (h3 : a ≠ z) : a ∉ [x, y, z] := by simp [h1, h2, h3]
theorem gbare_push {a b : Array GenState} {x : GenState} (hx : x.bare = true) (h : GBare (a.push x) b) : GBare a b := fun ha => h fun y hy => by
  rcases Array.mem_push.mp hy with hy | rfl
  · exact ha y hy
  · exact hx
theorem out_turn {fs : List Addr} {g g' h' : Heap} {e C : Addr} {words : Str} (T : KtsTurn fs g g') (O : Out fs [] g' h' e C words) : Out fs [] g h' e C words := by
  have dn : ∀ {b : Addr}, g'.get? b = none → g.get? b = none := fun {b} hb => by
    cases z : g.get? b with
    | none => rfl
    | some o =>
      obtain ⟨sl, hs⟩ := T.up z
      rw [hb] at hs; cases hs
  obtain ⟨T2, t, vs, tk, x, hT, hv, ht, htn⟩ := O.trc
  exact ⟨(show Chg fs [] g g' from ⟨fun b o e _ f => T.other b o e f, fun b o e _ f => T.frame b o e f⟩).trans O.chg, dn O.fresh, T2, t, vs, tk, x, dn hT, hv, ht, dn htn⟩
theorem list_turn {fs : List Addr} {g g' : Heap} {l : Addr} {items : Array Value} (T : KtsTurn fs g g') (h : g.IsList l items) : g'.IsList l items := by
  obtain ⟨o, ho, hc, n, hd⟩ := h
  obtain ⟨sl, hs⟩ := T.up ho
  exact ⟨_, hs, hc, n, hd⟩

theorem fresh_in {g h : Heap} {L b : Addr} {m : Str → Option Value} (F : Fr g L h m) (hb : h.get? b = none) : b ≠ L ∧ g.get? b = none := by
  refine ⟨fun q => ?_, ?_⟩
  · obtain ⟨o, _, _, ho, _⟩ := F.ns
    rw [← q, hb] at ho; cases ho
  · cases z : g.get? b with
    | none => rfl
    | some o => rw [F.keep _ _ z] at hb; cases hb

theorem fm_ni {w : World} {p : Program} {loose : List Str} {mean : ExcName → Option Value} {mg mb : Str → Option Value} {dp un : Nat} {gd : Option (List Code)} {cn : Str} {cs : Scope} {L a : Addr} {ccd : Value} {cl : List (Str × Addr)} {outer : List Env} {base : Heap} {s : Shared} {Q E : Value → Shared → Prop}
   (K0 : Below (ktrTop dp un gd cn cs L a ccd cl outer) base (envX cn cs L a ccd cl :: outer) s.heap) {I : Addr} (hmb : ∀ b ∈ [58, I], base.get? b = none ∧ b ∉ frs (envX cn cs L a ccd cl :: outer)) (X : (hd2.heap_39 w.params).In base) (T : Top p loose mean mg mb base)
   (C : CodeHd base 62 58) (hT : TabN s.heap)
   {l : Addr} {vs : List Value} {xs : List Nm} (hI : s.heap.IsListIter I l 0) (hl : s.heap.IsList l vs.toArray) (hN : NmsAre vs xs) (hfit : ∀ a ∈ xs, a.fits) (hlen : xs.length ≤ 1000) (hok : fsumOk [] (xs.map Nm.real))
   (hroom : dp + 8 < recursionLimit) (hun : un + 8 < cLine)
   (ret : 0 < vs.length → ∀ s' t, Chg (frs (envX cn cs L a ccd cl :: outer)) [58, I] s.heap s'.heap → TabN s'.heap → GBare s.gens s'.gens → s'.drawn = s.drawn → s'.os = s.os → Q (.float (Float64.div (fsumP (xs.map Nm.real)) (Float64.ofInt vs.length)) t) s')
   (err : ∀ s' e, vs.length = 0 → (∀ h0 : Heap, (∀ b o, h0.get? b = some o → s.heap.get? b = some o ∧ b ∉ [58, I]) → Out (frs (envX cn cs L a ccd cl :: outer)) [] h0 s'.heap e 52 "fmean requires at least one data point") → TabN s'.heap → GBare s.gens s'.gens → s'.drawn = s.drawn → s'.os = s.os → E (.ref e) s') :
   wpAny (model PySem.Challenge.rw_kp0013_02.row.prog w) (ktrTop dp un gd cn cs L a ccd cl outer) (call (.ref 63) [.ref I, .none]) Q E s := by
  revert X; k_fill; intro X
  refine wpAny_call ?_
  refine' enter_cells2 (mods := [58, I]) (binds := [("data", .ref I), ("weights", .none)]) K0 hmb X T ?ho ?hcd ?hroom ?hbind ?hkind ?hnd ?_ ?c1 ?c2 ?c3
  case ho => k_is
  case hcd => k_is
  case hroom => ktr_room
  case hbind => exact BindsTo.of_defaults (T := 56) rfl ((X.keeps K0.stays) 56 _ (by k_is)) rfl rfl rfl
  case hkind => exact rfl
  case hnd => decide +kernel
  case c1 => exact rfl
  case c2 => exact rfl
  case c3 => exact rfl
  intro g L' h₁ tk cells F N Y B Xg Tg Kp hmg hkeep hL'
  k_cells Y
  rename_i oN dN
  (try simp only [List.cons_append, List.nil_append] at N)
  (try dsimp only)
  obtain ⟨oI, hoI, hcI, hdI⟩ := id hI
  obtain ⟨ps, h58, hps⟩ := hT
  have ltL : ∀ {b o}, s.heap.get? b = some o → b ≠ L' := fun e q => by
    have := Heap.lt_size e
    rw [q, hL'] at this
    exact Nat.lt_irrefl _ this
  have nl : ∀ {b : Addr} {it : Array Value}, s.heap.IsList b it → b ∉ [58, I] := fun hb q => by
    rcases List.mem_cons.mp q with q | q
    · obtain ⟨o, ho, hc, _⟩ := hb
      rw [q, h58] at ho; cases ho; cases hc
    · exact iter_ne_list hI hb (List.mem_singleton.mp q).symm
  replace N := newsAdd (newsAdd N (hkeep _ _ h58) (ltL h58) (hmg 58 (by first | ((repeat (first | exact List.mem_cons_self | apply List.mem_cons_of_mem)); done) | simp))) (hkeep _ _ hoI) (ltL hoI) (hmg I (by first | ((repeat (first | exact List.mem_cons_self | apply List.mem_cons_of_mem)); done) | simp))
  have hlg := hl.at fun o e => Kp _ _ (nl hl) e
  have hlI : l ≠ I := fun q => nl hl (by rw [q]; simp)
  have hCg : CodeHd g 62 58 := C.keeps B.stays
  have h58L : 58 < L' := by rw [hL']; exact Heap.lt_size h58
  have hlL : l < L' := by rw [hL']; obtain ⟨_, e, _⟩ := hl; exact Heap.lt_size e
  have hIL : I < L' := by rw [hL']; exact Heap.lt_size hoI
  have hI58 : I ≠ 58 := fun q => by rw [q, h58] at hoI; cases hoI; cases hcI
  have hid := And.intro X (And.intro T C)
  clear K0 X T C hkeep
  (repeat' ((fail_if_success (with_reducible first | show wpAny _ _ (call (Value.builtin "len") _) _ _ _ | show wpAny _ _ (call (Value.ref _) _) _ _ _ | show wpAny _ _ (call (Value.builtin "math.fsum") _) _ _ _ | show wpAny _ _ (exec (Stmt.Try _ _ _ _ _) _) _ _ _ | show wpAny _ _ (binaryOp _ _ _) _ _ _ | show wpAny _ _ (exec (Stmt.FunctionDef _ _ _ _ _ _ _ _ _ _) _) _ _ _ | show wpAny _ _ (execs [Stmt.Assign _ _ _, Stmt.If _ _ _ _, Stmt.Return _ _] _) _ _ _ | show wpAny _ _ (exec (Stmt.Raise _ _ _) _) _ _ _)); first | (exfalso; omega) | (k_unfold; (try dsimp only)) | walk1 | (dsimp only; walk1) | (leave1; walk_say "STEP leave1"; try dsimp only)))
  refine wpAny_Try_except ?_
  (repeat' ((fail_if_success (with_reducible first | show wpAny _ _ (call (Value.builtin "len") _) _ _ _ | show wpAny _ _ (call (Value.ref _) _) _ _ _ | show wpAny _ _ (call (Value.builtin "math.fsum") _) _ _ _ | show wpAny _ _ (exec (Stmt.Try _ _ _ _ _) _) _ _ _ | show wpAny _ _ (binaryOp _ _ _) _ _ _ | show wpAny _ _ (exec (Stmt.FunctionDef _ _ _ _ _ _ _ _ _ _) _) _ _ _ | show wpAny _ _ (execs [Stmt.Assign _ _ _, Stmt.If _ _ _ _, Stmt.Return _ _] _) _ _ _ | show wpAny _ _ (exec (Stmt.Raise _ _ _) _) _ _ _)); first | (exfalso; omega) | (k_unfold; (try dsimp only)) | walk1 | (dsimp only; walk1) | (leave1; walk_say "STEP leave1"; try dsimp only)))
  rename Fr _ _ _ _ => F
  rename News _ _ _ _ => N
  have nI := N (I, oI) (by first | ((repeat (first | exact List.mem_cons_self | apply List.mem_cons_of_mem)); done) | simp)
  refine call_len_listiter rfl ⟨oI, nI.1, hcI, hdI⟩ (fun h2 tk2 e hx => ?_)
  have F1 := frKeep F hx.keeps
  have N1 := newsKeep N hx.keeps
  obtain ⟨oe, tp, heo, hcl, hod⟩ := hx.there
  have hen : g.get? e = none := by
    cases z : g.get? e with
    | none => rfl
    | some o => have := F.keep _ _ z; rw [hx.new] at this; cases this
  have heL : e ≠ L' := fun q => by
    obtain ⟨o, _, _, ho, _⟩ := F.ns
    rw [← q, hx.new] at ho; cases ho
  refine caughtB (X := "TypeError") (Tn := "TypeError") B F1 hid.1 hid.2.1 heo hcl hod hen heL ?nx PyProof.Rows.Boot.«TypeError» (by decide) PySem.F.isExc_TypeError PySem.F.notTuple_TypeError (by rw [isSubtype_type]; kernel_rfl) (fun g3 h3 T3 K3 F3 B3 C3 n3 x3 => ?_) rfl rfl (by decide)
  case nx => k_is
  have hne : ∀ q ∈ [(I, oI), ((58 : Addr), tabObj ps), (L' + 1, oN)], q.1 ≠ e := fun q hq m => by
    have := (N q hq).1
    rw [m, hx.new] at this; cases this
  have N3 : News g3 L' h3 [(I, oI), (58, tabObj ps), (L' + 1, oN)] := news_turn K3 C3 N1 (fun q hq => ⟨fun m => hne q hq (List.mem_singleton.mp m), news_off_frames B N q hq⟩)
  clear F N F1 N1
  change wpAny _ (((ktrTop dp un gd cn cs L a ccd cl outer).deeper (envOfC "fmean" _ L' 63 (.ref 62))).mark (some (.ref e))) (execs _ (envOfC "fmean" _ L' 63 (.ref 62))) _ _ _
  (repeat' ((fail_if_success (with_reducible first | show wpAny _ _ (call (Value.builtin "len") _) _ _ _ | show wpAny _ _ (call (Value.ref _) _) _ _ _ | show wpAny _ _ (call (Value.builtin "math.fsum") _) _ _ _ | show wpAny _ _ (exec (Stmt.Try _ _ _ _ _) _) _ _ _ | show wpAny _ _ (binaryOp _ _ _) _ _ _ | show wpAny _ _ (exec (Stmt.FunctionDef _ _ _ _ _ _ _ _ _ _) _) _ _ _ | show wpAny _ _ (execs [Stmt.Assign _ _ _, Stmt.If _ _ _ _, Stmt.Return _ _] _) _ _ _ | show wpAny _ _ (exec (Stmt.Raise _ _ _) _) _ _ _)); first | (exfalso; omega) | (k_unfold; (try dsimp only)) | walk1 | (dsimp only; walk1) | (leave1; walk_say "STEP leave1"; try dsimp only)))
  refine storeX_C (g := fun o => [(I, oI), (58, tabObj ps), (L' + 1, o)]) F3 N3 rfl ?upd dN (fun h4 oN4 F4 N4 dN4 => ?_) rfl rfl
  case upd => exact .tail (Nat.ne_of_lt (Nat.lt_succ_of_lt hIL)) (.tail (Nat.ne_of_lt (Nat.lt_succ_of_lt h58L)) (.head fun _ h => nomatch h))
  clear F3 N3
  have Tg3 := hid.2.1.keeps B3.stays
  have hC3 : CodeHd g3 62 58 := hid.2.2.keeps B3.stays
  (repeat' ((fail_if_success (with_reducible first | show wpAny _ _ (call (Value.builtin "len") _) _ _ _ | show wpAny _ _ (call (Value.ref _) _) _ _ _ | show wpAny _ _ (call (Value.builtin "math.fsum") _) _ _ _ | show wpAny _ _ (exec (Stmt.Try _ _ _ _ _) _) _ _ _ | show wpAny _ _ (binaryOp _ _ _) _ _ _ | show wpAny _ _ (exec (Stmt.FunctionDef _ _ _ _ _ _ _ _ _ _) _) _ _ _ | show wpAny _ _ (execs [Stmt.Assign _ _ _, Stmt.If _ _ _ _, Stmt.Return _ _] _) _ _ _ | show wpAny _ _ (exec (Stmt.Raise _ _ _) _) _ _ _)); first | (exfalso; omega) | (k_unfold; (try dsimp only)) | walk1 | (dsimp only; walk1) | (leave1; walk_say "STEP leave1"; try dsimp only)))
  refine nestDef_K rfl rfl rfl ?_
  rcases hps with rfl | ⟨c', oc, vsc, tc, rfl, hoc, hdc, hvc⟩
  · refine nest_K (P := 58) (c := 62) (ps := #[]) (g := fun o => [(I, oI), (58, o), (L' + 1, oN4)]) F4 N4 Tg3 hC3 rfl ?U0 ?t0 rfl rfl ?_
    case U0 => exact .tail (show I ≠ 58 from hI58) (.head fun q hq => by rw [List.mem_singleton.mp hq]; exact Nat.ne_of_gt (Nat.lt_succ_of_lt h58L))
    case t0 => exact True.intro
    intro f c' oc vsc tc ctv doc h5 tk5 F5 N5 d1 d2 l1 l2
    dsimp only at N5
    have hc58 : 58 < c' := l1 (58, tabObj #[]) (by first | ((repeat (first | exact List.mem_cons_self | apply List.mem_cons_of_mem)); done) | simp)
    clear F4 N4
    (repeat' ((fail_if_success (with_reducible first | show wpAny _ _ (call (Value.builtin "len") _) _ _ _ | show wpAny _ _ (call (Value.ref _) _) _ _ _ | show wpAny _ _ (call (Value.builtin "math.fsum") _) _ _ _ | show wpAny _ _ (exec (Stmt.Try _ _ _ _ _) _) _ _ _ | show wpAny _ _ (binaryOp _ _ _) _ _ _ | show wpAny _ _ (exec (Stmt.FunctionDef _ _ _ _ _ _ _ _ _ _) _) _ _ _ | show wpAny _ _ (execs [Stmt.Assign _ _ _, Stmt.If _ _ _ _, Stmt.Return _ _] _) _ _ _ | show wpAny _ _ (exec (Stmt.Raise _ _ _) _) _ _ _)); first | (exfalso; omega) | (k_unfold; (try dsimp only)) | walk1 | (dsimp only; walk1) | (leave1; walk_say "STEP leave1"; try dsimp only)))
    rename Fr _ _ _ _ => F
    rename News _ _ _ _ => N
    refine call_count ?groom (N _ List.mem_cons_self).1 (codeRec_news N (List.mem_cons_of_mem _ List.mem_cons_self) d1 d2) (Tg3.nolimit.keeps F.keep) (BindsTo.of_eq rfl) ?gcell rfl rfl rfl rfl ?_
    case groom => exact (show dp + 1 < recursionLimit from Nat.lt_of_le_of_lt (Nat.add_le_add_left (by decide) dp) hroom)
    case gcell => decide
    intro ga Cg oC oG h6 tk6 k6 nC nG gaC hoC hoG hnC hnG ltC ltG leC
    have hLC : L' < Cg := Nat.lt_of_lt_of_le F.ns.lt leC
    have hcC : c' < Cg := Nat.lt_of_lt_of_le (Heap.lt_size (N (c', oc) (by first | ((repeat (first | exact List.mem_cons_self | apply List.mem_cons_of_mem)); done) | simp)).1) leC
    have hNC : L' + 1 < Cg := Nat.lt_of_lt_of_le (Heap.lt_size (N (L' + 1, oN4) (by first | ((repeat (first | exact List.mem_cons_self | apply List.mem_cons_of_mem)); done) | simp)).1) leC
    have F6 := frKeep F k6
    have N6 := newsAdd (newsAdd (newsKeep N k6) hoC (fresh_in F nC).1 (fresh_in F nC).2) hoG (fresh_in F nG).1 (fresh_in F nG).2
    clear F N
    (repeat' ((fail_if_success (with_reducible first | show wpAny _ _ (call (Value.builtin "len") _) _ _ _ | show wpAny _ _ (call (Value.ref _) _) _ _ _ | show wpAny _ _ (call (Value.builtin "math.fsum") _) _ _ _ | show wpAny _ _ (exec (Stmt.Try _ _ _ _ _) _) _ _ _ | show wpAny _ _ (binaryOp _ _ _) _ _ _ | show wpAny _ _ (exec (Stmt.FunctionDef _ _ _ _ _ _ _ _ _ _) _) _ _ _ | show wpAny _ _ (execs [Stmt.Assign _ _ _, Stmt.If _ _ _ _, Stmt.Return _ _] _) _ _ _ | show wpAny _ _ (exec (Stmt.Raise _ _ _) _) _ _ _)); first | (exfalso; omega) | (k_unfold; (try dsimp only)) | walk1 | (dsimp only; walk1) | (leave1; walk_say "STEP leave1"; try dsimp only)))
    dsimp only
    rename Fr _ _ _ _ => F
    rename News _ _ _ _ => N
    refine fm_gtail (I := I) (C := Cg) (ga := ga) (gn := s.gens.size) (B0 := ga + 1) (xs := xs) (vs := vs) (P1 := 58) (P2 := c') (oP1 := tabObj #[rawInt 12, rawInt 12, .ref c']) (oP2 := oc) rfl rfl rfl rfl B3 hid.1 hid.2.1
      (newsSub N (by intro q hq; simp only [List.mem_cons, List.not_mem_nil, or_false] at hq; rcases hq with rfl | rfl <;> simp [rawInt])) ?p1 ?p2 F rfl (N (L' + 1, oN4) (by first | ((repeat (first | exact List.mem_cons_self | apply List.mem_cons_of_mem)); done) | simp)).2.2 ?hG ?w1 ?w2 (Nat.lt_succ_self _) ?w3 ?w4 ?w5 ?w6 hN hfit hlen hok hroom hun ?ret ?err
    case p1 => exact ⟨not3 (Nat.ne_of_lt (Nat.lt_trans h58L hLC)) (Nat.ne_of_lt (Nat.lt_succ_of_lt h58L)) (Ne.symm hI58), Nat.lt_succ_of_lt (Nat.lt_trans (Nat.lt_trans h58L hLC) gaC)⟩
    case p2 => exact ⟨not3 (Nat.ne_of_lt hcC) (Nat.ne_of_gt (l1 (L' + 1, oN4) (by first | ((repeat (first | exact List.mem_cons_self | apply List.mem_cons_of_mem)); done) | simp))) (Nat.ne_of_gt (l1 (I, oI) (by first | ((repeat (first | exact List.mem_cons_self | apply List.mem_cons_of_mem)); done) | simp))), Nat.lt_succ_of_lt (Nat.lt_trans hcC gaC)⟩
    case w1 => exact not3 (Nat.ne_of_gt gaC) (Nat.ne_of_gt (Nat.lt_trans hNC gaC)) (Nat.ne_of_gt (Nat.lt_trans hIL (Nat.lt_trans hLC gaC)))
    case w2 =>
      have hcs : cStatics < 58 := by decide
      refine not3 (Nat.ne_of_lt (Nat.lt_trans hcs (Nat.lt_trans h58L hLC))) (Nat.ne_of_lt (Nat.lt_succ_of_lt (Nat.lt_trans hcs h58L))) (fun q => ?_)
      obtain ⟨mc, ⟨o, _, _, ho, _⟩, _⟩ := Tg3.nolimit
      have := (N (I, oI) (by first | ((repeat (first | exact List.mem_cons_self | apply List.mem_cons_of_mem)); done) | simp)).2.2
      rw [q, this] at ho; cases ho
    case w3 => exact Nat.lt_succ_of_lt (Nat.lt_trans (show cStatics < 58 by decide) (Nat.lt_trans (Nat.lt_trans h58L hLC) gaC))
    case w4 => exact not3 (Nat.ne_of_lt hLC) (Nat.ne_of_lt (Nat.lt_succ_self _)) (Nat.ne_of_gt hIL)
    case w5 => exact Nat.lt_succ_of_lt (Nat.lt_trans hLC gaC)
    case w6 =>
      intro b hb
      simp only [List.mem_cons, List.not_mem_nil, or_false] at hb
      rcases hb with rfl | rfl | rfl
      · have n := N (b, oC) (by first | ((repeat (first | exact List.mem_cons_self | apply List.mem_cons_of_mem)); done) | simp); exact ⟨n.2.2, Heap.lt_size n.1⟩
      · have n := N (L' + 1, oN4) (by first | ((repeat (first | exact List.mem_cons_self | apply List.mem_cons_of_mem)); done) | simp); exact ⟨n.2.2, Heap.lt_size n.1⟩
      · have n := N (b, oI) (by first | ((repeat (first | exact List.mem_cons_self | apply List.mem_cons_of_mem)); done) | simp); exact ⟨n.2.2, Heap.lt_size n.1⟩
    case hG =>
      refine ⟨hnG _ (N (ga, oG) (by first | ((repeat (first | exact List.mem_cons_self | apply List.mem_cons_of_mem)); done) | simp)).1, Tg3.nolimit.keeps F.keep, _, Array.getElem?_push_size .., fun s'' hk => ⟨rfl, ?_⟩⟩
      have nC6 := N (Cg, oC) (by first | ((repeat (first | exact List.mem_cons_self | apply List.mem_cons_of_mem)); done) | simp)
      have nI6 := N (I, oI) (by first | ((repeat (first | exact List.mem_cons_self | apply List.mem_cons_of_mem)); done) | simp)
      have nN6 := N (L' + 1, oN4) (by first | ((repeat (first | exact List.mem_cons_self | apply List.mem_cons_of_mem)); done) | simp)
      have lt : l < Cg := Nat.lt_trans hlL hLC
      have ga6 := N (ga, oG) (by first | ((repeat (first | exact List.mem_cons_self | apply List.mem_cons_of_mem)); done) | simp)
      refine seg_count (C := Cg) (cN := L' + 1) (I := I) (l := l) (B0 := ga + 1) (items := vs.toArray) (m := fun x => if x = "iterable" then some (.ref I) else none) rfl (hid.1.keeps B3.stays) (topRead_of Tg3) ?ex rfl rfl rfl rfl rfl rfl rfl ⟨hnC _ (hk _ _ nC6.1), fun b o x => hk _ _ (F.keep b o x), Nat.le_trans F.above (Nat.le_of_lt hLC)⟩ (if_pos rfl) ⟨oI, hk _ _ nI6.1, hcI, hdI⟩ ((list_turn K3 hlg).at fun o x => hk _ _ (F.keep _ _ x)) ⟨_, oN4, hk _ _ nN6.1, dN4⟩ (Heap.lt_size (hk _ _ ga6.1)) hlI (Nat.ne_of_gt (Nat.lt_trans hIL hLC)) (Nat.ne_of_gt lt) (Nat.ne_of_gt hNC) (Nat.ne_of_gt (Nat.lt_succ_of_lt hIL)) (Nat.ne_of_gt (Nat.lt_succ_of_lt hlL))
      case ex => k_is
    case ret =>
      intro hv s' t kp h1 h2 gb dr os
      exact ret hv s' t (((Chg.of_keeps_but fun b o e m => Kp b o m e).trans (turn_chg K3)).trans (Chg.of_keeps kp)) ⟨_, h1, .inr ⟨c', oc, vsc, tc, rfl, h2, d1, by rw [d2]; exact congrArg (fun q => some (Value.str q tc)) (qn (L := L'))⟩⟩ (gbare_push rfl gb) dr os
    case err =>
      intro s' e hv O h1 h2 gb dr os
      exact err s' e hv (fun h0 hh => out_sub (fun b o x => Kp b o (hh b o x).2 (hh b o x).1) (out_turn K3 O)) ⟨_, h1, .inr ⟨c', oc, vsc, tc, rfl, h2, d1, by rw [d2]; exact congrArg (fun q => some (Value.str q tc)) (qn (L := L'))⟩⟩ (gbare_push rfl gb) dr os
  · have nc58 : c' ≠ 58 := fun q => by
      rw [q, h58] at hoc; cases hoc; cases hdc; cases hvc
    have ncI : c' ≠ I := fun q => by
      rw [q, hoI] at hoc; cases hoc; rw [hdI] at hdc; cases hdc; cases hvc
    obtain ⟨slc, hoc3⟩ := K3.up (Kp _ _ (by simp [nc58, ncI]) hoc)
    refine nestHit_K (P := 58) (c := 62) (ps := #[rawInt 12, rawInt 12, .ref c']) (c' := c') F4 N4 Tg3 hC3 rfl (by first | ((repeat (first | exact List.mem_cons_self | apply List.mem_cons_of_mem)); done) | simp) ?t0 ?hf rfl ?_
    case t0 => kn_triples
    case hf => first | rfl | (simp [codeAmong, rawInt]; done)
    intro f ctv doc h5 tk5 F5 N5 l1
    clear F4 N4
    (repeat' ((fail_if_success (with_reducible first | show wpAny _ _ (call (Value.builtin "len") _) _ _ _ | show wpAny _ _ (call (Value.ref _) _) _ _ _ | show wpAny _ _ (call (Value.builtin "math.fsum") _) _ _ _ | show wpAny _ _ (exec (Stmt.Try _ _ _ _ _) _) _ _ _ | show wpAny _ _ (binaryOp _ _ _) _ _ _ | show wpAny _ _ (exec (Stmt.FunctionDef _ _ _ _ _ _ _ _ _ _) _) _ _ _ | show wpAny _ _ (execs [Stmt.Assign _ _ _, Stmt.If _ _ _ _, Stmt.Return _ _] _) _ _ _ | show wpAny _ _ (exec (Stmt.Raise _ _ _) _) _ _ _)); first | (exfalso; omega) | (k_unfold; (try dsimp only)) | walk1 | (dsimp only; walk1) | (leave1; walk_say "STEP leave1"; try dsimp only)))
    rename Fr _ _ _ _ => F
    rename News _ _ _ _ => N
    refine call_count ?groom (N _ List.mem_cons_self).1 ⟨c', { oc with slots := slc }, vsc, tc, rfl, F.keep _ _ hoc3, hdc, by rw [hvc]; exact (congrArg (fun q => some (Value.str q tc)) (qn (L := L'))).symm⟩ (Tg3.nolimit.keeps F.keep) (BindsTo.of_eq rfl) ?gcell rfl rfl rfl rfl ?_
    case groom => exact (show dp + 1 < recursionLimit from Nat.lt_of_le_of_lt (Nat.add_le_add_left (by decide) dp) hroom)
    case gcell => decide
    intro ga Cg oC oG h6 tk6 k6 nC nG gaC hoC hoG hnC hnG ltC ltG leC
    have hLC : L' < Cg := Nat.lt_of_lt_of_le F.ns.lt leC
    have hNC : L' + 1 < Cg := Nat.lt_of_lt_of_le (Heap.lt_size (N (L' + 1, oN4) (by first | ((repeat (first | exact List.mem_cons_self | apply List.mem_cons_of_mem)); done) | simp)).1) leC
    have F6 := frKeep F k6
    have N6 := newsAdd (newsAdd (newsKeep N k6) hoC (fresh_in F nC).1 (fresh_in F nC).2) hoG (fresh_in F nG).1 (fresh_in F nG).2
    clear F N
    (repeat' ((fail_if_success (with_reducible first | show wpAny _ _ (call (Value.builtin "len") _) _ _ _ | show wpAny _ _ (call (Value.ref _) _) _ _ _ | show wpAny _ _ (call (Value.builtin "math.fsum") _) _ _ _ | show wpAny _ _ (exec (Stmt.Try _ _ _ _ _) _) _ _ _ | show wpAny _ _ (binaryOp _ _ _) _ _ _ | show wpAny _ _ (exec (Stmt.FunctionDef _ _ _ _ _ _ _ _ _ _) _) _ _ _ | show wpAny _ _ (execs [Stmt.Assign _ _ _, Stmt.If _ _ _ _, Stmt.Return _ _] _) _ _ _ | show wpAny _ _ (exec (Stmt.Raise _ _ _) _) _ _ _)); first | (exfalso; omega) | (k_unfold; (try dsimp only)) | walk1 | (dsimp only; walk1) | (leave1; walk_say "STEP leave1"; try dsimp only)))
    dsimp only
    rename Fr _ _ _ _ => F
    rename News _ _ _ _ => N
    refine fm_gtail (I := I) (C := Cg) (ga := ga) (gn := s.gens.size) (B0 := ga + 1) (xs := xs) (vs := vs) (P1 := 58) (P2 := 58) (oP1 := tabObj #[rawInt 12, rawInt 12, .ref c']) (oP2 := tabObj #[rawInt 12, rawInt 12, .ref c']) rfl rfl rfl rfl B3 hid.1 hid.2.1
      (newsSub N (by intro q hq; simp only [List.mem_cons, List.not_mem_nil, or_false] at hq; rcases hq with rfl | rfl <;> simp [rawInt])) ?p1 ?p2 F rfl (N (L' + 1, oN4) (by first | ((repeat (first | exact List.mem_cons_self | apply List.mem_cons_of_mem)); done) | simp)).2.2 ?hG ?w1 ?w2 (Nat.lt_succ_self _) ?w3 ?w4 ?w5 ?w6 hN hfit hlen hok hroom hun ?ret ?err
    case p1 => exact ⟨not3 (Nat.ne_of_lt (Nat.lt_trans h58L hLC)) (Nat.ne_of_lt (Nat.lt_succ_of_lt h58L)) (Ne.symm hI58), Nat.lt_succ_of_lt (Nat.lt_trans (Nat.lt_trans h58L hLC) gaC)⟩
    case p2 => exact ⟨not3 (Nat.ne_of_lt (Nat.lt_trans h58L hLC)) (Nat.ne_of_lt (Nat.lt_succ_of_lt h58L)) (Ne.symm hI58), Nat.lt_succ_of_lt (Nat.lt_trans (Nat.lt_trans h58L hLC) gaC)⟩
    case w1 => exact not3 (Nat.ne_of_gt gaC) (Nat.ne_of_gt (Nat.lt_trans hNC gaC)) (Nat.ne_of_gt (Nat.lt_trans hIL (Nat.lt_trans hLC gaC)))
    case w2 =>
      have hcs : cStatics < 58 := by decide
      refine not3 (Nat.ne_of_lt (Nat.lt_trans hcs (Nat.lt_trans h58L hLC))) (Nat.ne_of_lt (Nat.lt_succ_of_lt (Nat.lt_trans hcs h58L))) (fun q => ?_)
      obtain ⟨mc, ⟨o, _, _, ho, _⟩, _⟩ := Tg3.nolimit
      have := (N (I, oI) (by first | ((repeat (first | exact List.mem_cons_self | apply List.mem_cons_of_mem)); done) | simp)).2.2
      rw [q, this] at ho; cases ho
    case w3 => exact Nat.lt_succ_of_lt (Nat.lt_trans (show cStatics < 58 by decide) (Nat.lt_trans (Nat.lt_trans h58L hLC) gaC))
    case w4 => exact not3 (Nat.ne_of_lt hLC) (Nat.ne_of_lt (Nat.lt_succ_self _)) (Nat.ne_of_gt hIL)
    case w5 => exact Nat.lt_succ_of_lt (Nat.lt_trans hLC gaC)
    case w6 =>
      intro b hb
      simp only [List.mem_cons, List.not_mem_nil, or_false] at hb
      rcases hb with rfl | rfl | rfl
      · have n := N (b, oC) (by first | ((repeat (first | exact List.mem_cons_self | apply List.mem_cons_of_mem)); done) | simp); exact ⟨n.2.2, Heap.lt_size n.1⟩
      · have n := N (L' + 1, oN4) (by first | ((repeat (first | exact List.mem_cons_self | apply List.mem_cons_of_mem)); done) | simp); exact ⟨n.2.2, Heap.lt_size n.1⟩
      · have n := N (b, oI) (by first | ((repeat (first | exact List.mem_cons_self | apply List.mem_cons_of_mem)); done) | simp); exact ⟨n.2.2, Heap.lt_size n.1⟩
    case hG =>
      refine ⟨hnG _ (N (ga, oG) (by first | ((repeat (first | exact List.mem_cons_self | apply List.mem_cons_of_mem)); done) | simp)).1, Tg3.nolimit.keeps F.keep, _, Array.getElem?_push_size .., fun s'' hk => ⟨rfl, ?_⟩⟩
      have nC6 := N (Cg, oC) (by first | ((repeat (first | exact List.mem_cons_self | apply List.mem_cons_of_mem)); done) | simp)
      have nI6 := N (I, oI) (by first | ((repeat (first | exact List.mem_cons_self | apply List.mem_cons_of_mem)); done) | simp)
      have nN6 := N (L' + 1, oN4) (by first | ((repeat (first | exact List.mem_cons_self | apply List.mem_cons_of_mem)); done) | simp)
      have lt : l < Cg := Nat.lt_trans hlL hLC
      have ga6 := N (ga, oG) (by first | ((repeat (first | exact List.mem_cons_self | apply List.mem_cons_of_mem)); done) | simp)
      refine seg_count (C := Cg) (cN := L' + 1) (I := I) (l := l) (B0 := ga + 1) (items := vs.toArray) (m := fun x => if x = "iterable" then some (.ref I) else none) rfl (hid.1.keeps B3.stays) (topRead_of Tg3) ?ex rfl rfl rfl rfl rfl rfl rfl ⟨hnC _ (hk _ _ nC6.1), fun b o x => hk _ _ (F.keep b o x), Nat.le_trans F.above (Nat.le_of_lt hLC)⟩ (if_pos rfl) ⟨oI, hk _ _ nI6.1, hcI, hdI⟩ ((list_turn K3 hlg).at fun o x => hk _ _ (F.keep _ _ x)) ⟨_, oN4, hk _ _ nN6.1, dN4⟩ (Heap.lt_size (hk _ _ ga6.1)) hlI (Nat.ne_of_gt (Nat.lt_trans hIL hLC)) (Nat.ne_of_gt lt) (Nat.ne_of_gt hNC) (Nat.ne_of_gt (Nat.lt_succ_of_lt hIL)) (Nat.ne_of_gt (Nat.lt_succ_of_lt hlL))
      case ex => k_is
    case ret =>
      intro hv s' t kp h1 h2 gb dr os
      have kc := kp _ _ hoc3
      exact ret hv s' t (((Chg.of_keeps_but fun b o e m => Kp b o m e).trans (turn_chg K3)).trans (Chg.of_keeps kp)) ⟨_, h1, .inr ⟨c', _, vsc, tc, rfl, kc, hdc, hvc⟩⟩ (gbare_push rfl gb) dr os
    case err =>
      intro s' e hv O h1 h2 gb dr os
      obtain ⟨slc2, kc⟩ := O.chg.up hoc3 nofun
      exact err s' e hv (fun h0 hh => out_sub (fun b o x => Kp b o (hh b o x).2 (hh b o x).1) (out_turn K3 O)) ⟨_, h1, .inr ⟨c', _, vsc, tc, rfl, kc, hdc, hvc⟩⟩ (gbare_push rfl gb) dr os
end Mine
end
theorem Mine.anewFmI : True := by
  w_top off
  exact trivial
section
open PySem PySem.W PyProof.Rows PySem.Calls
set_option Elab.async false
set_option maxRecDepth 100000
set_option maxHeartbeats 8000000
set_option linter.unusedVariables false
namespace Mine

/-- a list that was just made joins the ledger -/
theorem newList_add2 {g h h' : Heap} {L D : Addr} {m : Str → Option Value} {news : List (Addr × Obj)} {items : Array Value} (F : Fr g L h m) (hD : h.get? D = none) (N : News g L h' news) (hl : h'.IsList D items) :
    ∃ o, News g L h' ((D, o) :: news) ∧ o.cls = .type "list" ∧ ∃ n, o.data = .seq items n := by
  obtain ⟨o, ho, hc, n, hd⟩ := hl
  refine ⟨o, newsAdd N ho (fun q => ?_) ?_, hc, n, hd⟩
  · obtain ⟨oL, _, _, hL, _⟩ := F.ns
    rw [q, hL] at hD; cases hD
  · cases z : g.get? D with
    | none => rfl
    | some o => rw [F.keep _ _ z] at hD; cases hD

theorem fm_wi {w : World} {p : Program} {loose : List Str} {mean : ExcName → Option Value} {mg mb : Str → Option Value} {dp un : Nat} {gd : Option (List Code)} {cn : Str} {cs : Scope} {L a : Addr} {ccd : Value} {cl : List (Str × Addr)} {outer : List Env} {base : Heap} {s : Shared} {Q E : Value → Shared → Prop}
   (K0 : Below (ktrTop dp un gd cn cs L a ccd cl outer) base (envX cn cs L a ccd cl :: outer) s.heap) {I J : Addr} (hmb : ∀ b ∈ [I, J], base.get? b = none ∧ b ∉ frs (envX cn cs L a ccd cl :: outer)) (X : (hd2.heap_39 w.params).In base) (T : Top p loose mean mg mb base)
   {l r : Addr} {vs ws : List Value} {ys : List Nm} {num : Nm} (hI : s.heap.IsListIter I l 0) (hl : s.heap.IsList l vs.toArray) (hJ : s.heap.IsListIter J r 0) (hr : s.heap.IsList r ws.toArray) (hIJ : I ≠ J)
   (hS : SumP PySem.Challenge.rw_kp0013_02.row.prog w vs ws num) (hnum : num.fits) (hN : NmsAre ws ys) (hfit : ∀ a ∈ ys, a.fits) (hlen : ys.length < sizeLine) (hok : fsumOk [] (ys.map Nm.real))
   (hroom : dp + 8 < recursionLimit) (hun : un + 8 < cLine)
   (ret : vs.length = ws.length → Float64.isZero (fsumP (ys.map Nm.real)) = false → ∀ s' t, (∀ b o, b ∉ [I, J] → s.heap.get? b = some o → s'.heap.get? b = some o) → s'.gens = s.gens → s'.drawn = s.drawn → s'.os = s.os → Q (.float (Float64.div num.real (fsumP (ys.map Nm.real))) t) s')
   (err : ∀ s' e words, ((vs.length ≠ ws.length ∧ words = "data and weights must be the same length") ∨ (vs.length = ws.length ∧ Float64.isZero (fsumP (ys.map Nm.real)) = true ∧ words = "sum of weights must be non-zero")) →
     (∀ h0 : Heap, (∀ b o, h0.get? b = some o → s.heap.get? b = some o ∧ b ∉ [I, J]) → Out (frs (envX cn cs L a ccd cl :: outer)) [] h0 s'.heap e 52 words) → s'.gens = s.gens → s'.drawn = s.drawn → s'.os = s.os → E (.ref e) s') :
   wpAny (model PySem.Challenge.rw_kp0013_02.row.prog w) (ktrTop dp un gd cn cs L a ccd cl outer) (call (.ref 63) [.ref I, .ref J]) Q E s := by
  revert X; k_fill; intro X
  refine wpAny_call ?_
  refine' enter_cells2 (mods := [I, J]) (binds := [("data", .ref I), ("weights", .ref J)]) K0 hmb X T ?ho ?hcd ?hroom ?hbind ?hkind ?hnd ?_ ?c1 ?c2 ?c3
  case ho => k_is
  case hcd => k_is
  case hroom => ktr_room
  case hbind => exact BindsTo.of_defaults (T := 56) rfl ((X.keeps K0.stays) 56 _ (by k_is)) rfl rfl rfl
  case hkind => exact rfl
  case hnd => decide +kernel
  case c1 => exact rfl
  case c2 => exact rfl
  case c3 => exact rfl
  intro g L' h₁ tk cells F N Y B Xg Tg Kp hmg hkeep hL'
  k_cells Y
  rename_i oN dN
  (try simp only [List.cons_append, List.nil_append] at N)
  (try dsimp only)
  obtain ⟨oI, hoI, hcI, hdI⟩ := id hI
  obtain ⟨oJ, hoJ, hcJ, hdJ⟩ := id hJ
  have ltL : ∀ {b o}, s.heap.get? b = some o → b ≠ L' := fun e q => by
    have := Heap.lt_size e
    rw [q, hL'] at this
    exact Nat.lt_irrefl _ this
  have nl : ∀ {b : Addr} {it : Array Value}, s.heap.IsList b it → b ∉ [I, J] := fun hb q => by
    rcases List.mem_cons.mp q with q | q
    · exact iter_ne_list hI hb q.symm
    · exact iter_ne_list hJ hb (List.mem_singleton.mp q).symm
  replace N := newsAdd (newsAdd N (hkeep _ _ hoJ) (ltL hoJ) (hmg J (by first | ((repeat (first | exact List.mem_cons_self | apply List.mem_cons_of_mem)); done) | simp))) (hkeep _ _ hoI) (ltL hoI) (hmg I (by first | ((repeat (first | exact List.mem_cons_self | apply List.mem_cons_of_mem)); done) | simp))
  have hlg := hl.at fun o e => Kp _ _ (nl hl) e
  have hrg := hr.at fun o e => Kp _ _ (nl hr) e
  have hlI : l ≠ I := fun q => nl hl (by rw [q]; simp)
  have hrJ : r ≠ J := fun q => nl hr (by rw [q]; simp)
  have hid := And.intro X T
  clear K0 X T hkeep hL'
  (repeat' ((fail_if_success (with_reducible first | show wpAny _ _ (call (Value.builtin "math.sumprod") _) _ _ _ | show wpAny _ _ (call (Value.type "list") _) _ _ _ | show wpAny _ _ (call (Value.builtin "math.fsum") _) _ _ _ | show wpAny _ _ (exec (Stmt.Try _ _ _ _ _) _) _ _ _ | show wpAny _ _ (execs [Stmt.Try _ _ _ _ _, _, _, _] _) _ _ _ | show wpAny _ _ (exec (Stmt.Raise _ _ _) _) _ _ _)); first | (exfalso; omega) | (k_unfold; (try dsimp only)) | walk1 | (dsimp only; walk1) | (leave1; walk_say "STEP leave1"; try dsimp only)))
  rename Fr _ _ _ _ => F
  rename News _ _ _ _ => N
  refine' kia_tup kitx_listiter (X := fun a o e => F.keep _ _ (Xg a o e)) ?isP ?isT ?isE ?isN ?_
  case isP => exact ⟨oJ, (N (J, oJ) (by first | ((repeat (first | exact List.mem_cons_self | apply List.mem_cons_of_mem)); done) | simp)).1, hcJ⟩
  case isT => kit_tp
  case isE => kit_is
  case isN => kit_nb
  intro tk1
  (repeat' ((fail_if_success (with_reducible first | show wpAny _ _ (call (Value.builtin "math.sumprod") _) _ _ _ | show wpAny _ _ (call (Value.type "list") _) _ _ _ | show wpAny _ _ (call (Value.builtin "math.fsum") _) _ _ _ | show wpAny _ _ (exec (Stmt.Try _ _ _ _ _) _) _ _ _ | show wpAny _ _ (execs [Stmt.Try _ _ _ _ _, _, _, _] _) _ _ _ | show wpAny _ _ (exec (Stmt.Raise _ _ _) _) _ _ _)); first | (exfalso; omega) | (k_unfold; (try dsimp only)) | walk1 | (dsimp only; walk1) | (leave1; walk_say "STEP leave1"; try dsimp only)))
  rename Fr _ _ _ _ => F
  rename News _ _ _ _ => N
  have nJ := N (J, oJ) (by first | ((repeat (first | exact List.mem_cons_self | apply List.mem_cons_of_mem)); done) | simp)
  have nI := N (I, oI) (by first | ((repeat (first | exact List.mem_cons_self | apply List.mem_cons_of_mem)); done) | simp)
  refine call_list_listiter (r := r) (items := ws.toArray) rfl ⟨oJ, nJ.1, hcJ, hdJ⟩ (hrg.at fun o e => F.keep _ _ e) hrJ (by have := hN.1; simp; omega) (fun h2 tk2 D nD hD k2 => ?_)
  have F2 := frBut (P := [J]) F (fun b o hb e => k2 b o (by simpa using hb) e) (by simpa using Ne.symm nJ.2.1) (fun b hb => by rw [List.mem_singleton.mp hb]; exact nJ.2.2)
  have N2 : News g L' h2 [(I, oI)] := newsAdd (fun _ h => nomatch h) (k2 _ _ hIJ nI.1) nI.2.1 nI.2.2
  have hID : I ≠ D := fun q => by
    have e := nI.1
    rw [q] at e
    rw [nD] at e; cases e
  have N3 := newList_add2 F nD N2 hD
  clear F N
  obtain ⟨oD, N3, cD, nD, dD⟩ := N3
  (repeat' ((fail_if_success (with_reducible first | show wpAny _ _ (call (Value.builtin "math.sumprod") _) _ _ _ | show wpAny _ _ (call (Value.type "list") _) _ _ _ | show wpAny _ _ (call (Value.builtin "math.fsum") _) _ _ _ | show wpAny _ _ (exec (Stmt.Try _ _ _ _ _) _) _ _ _ | show wpAny _ _ (execs [Stmt.Try _ _ _ _ _, _, _, _] _) _ _ _ | show wpAny _ _ (exec (Stmt.Raise _ _ _) _) _ _ _)); first | (exfalso; omega) | (k_unfold; (try dsimp only)) | walk1 | (dsimp only; walk1) | (leave1; walk_say "STEP leave1"; try dsimp only)))
  dsimp only
  rename Fr _ _ _ _ => F
  rename News _ _ _ _ => N
  have nI := N (I, oI) (by first | ((repeat (first | exact List.mem_cons_self | apply List.mem_cons_of_mem)); done) | simp)
  refine fm_tail (I := I) (J := D) (oI := oI) (oJ := oD) (mods := [I]) rfl rfl rfl rfl rfl B hid.1 hid.2 F rfl rfl (newsSub N (by intro q hq; simp only [List.mem_cons, List.not_mem_nil, or_false] at hq; rcases hq with rfl | rfl <;> simp)) (fun b hb => by rw [List.mem_singleton.mp hb]; exact ⟨hID, nI.2.1, nI.2.2⟩)
    (fun h' e k => .iter ⟨oI, e, hcI, hdI⟩ (hlg.at fun o e => k _ _ e) hlI) (fun h' e k => ⟨oD, e, cD, _, dD⟩) hS hnum hN hfit hlen hok hroom hun ?ret ?err
  case ret => exact fun heq hz s' t k g1 d1 o1 => ret heq hz s' t (fun b o hb e => k b o (Kp b o hb e)) g1 d1 o1
  case err => exact fun s' e words hc O g1 d1 o1 => err s' e words hc (fun h0 hh => out_sub (fun b o e => Kp b o (hh b o e).2 (hh b o e).1) O) g1 d1 o1
end Mine
end
theorem Mine.anewE8 : True := by
  w_top off
  exact trivial
section
open PySem PySem.W PySem.Calls PyProof.Rows
set_option Elab.async false
set_option maxRecDepth 100000
set_option linter.unusedVariables false
namespace Mine
open Builtin Builtin.Str Builtin.BaseException Builtin.Exceptions
theorem bk1 : builtinKind "BaseException.__str__" = some .slot := by decide +kernel
theorem bk2 : splitId "BaseException.__str__" = some ("BaseException", "__str__") := by decide +kernel
/-- `str(e)` of an own exception, based on a built-in one, that was made with one text -/
theorem str_own {prog : Program} {w : World} {A : Around} {E : Value → Shared → Prop} {s : Shared} {Kf : Frag} {X n : String} {e t C : Addr} {m : Str} {tk : Tok} {oe : Obj} {vs : Array Value} {Q : Value → Shared → Prop} (FX : ExcStrFacts X n)
    (XB : Kf.In s.heap) (hf : findIn Kf (.ref C) "__str__" = some (some (.builtin "BaseException.__str__"))) (hsub : subIn Kf (.ref C) (.type "BaseException") = some true)
    (he : s.heap.get? e = some oe) (hcl : oe.cls = .ref C) (hd : oe.data = .fields vs) (h0 : vs[0]? = some (.ref t)) (ht : s.heap.TupAt t [.str m tk]) (hu : A.units + 2 < cLine) (h : Q (.str m tk) s) :
    wpAny (model prog w) A (call (.type "str") [.ref e]) Q E s := by
  have lt : ∀ (M : Model), Looks M s.heap (typeOf (.ref e)) (.ref C) := fun M => by
    have := (Looks.ld (M := M) (part := none) he).andThen (f := fun o => pure o.cls) (b := oe.cls) Looks.now
    rw [hcl] at this
    exact this
  have one : ∀ (prog : Program) (w : World) (A : Around) (E : Value → Shared → Prop) (Q : Value → Shared → Prop), A.units < cLine → Q (.str m tk) s → wpAny (model prog w) A (Builtin.Str.strOf (.ref e)) Q E s := by
    intro prog w A E Q hu hq
    unfold Builtin.Str.strOf
    rw [show isExactStr (.ref e) = false from rfl]
    simp only [Bool.false_eq_true, if_false]
    refine wpAny_bind (wpAny_cRoomFor hu (wpAny_bind ?_))
    simp only [callSpecial?]
    refine wpAny_bind (Looks.here ((lt _).andThen (looks_findIn XB hf)) ?_)
    simp only [FX.str.bind]
    refine wpAny_holding (wpAny_bind (wpAny_pure (wpAny_bind ?_)))
    have hi : ∀ (M : Model), Looks M s.heap (isInstance (.ref e) (.type "BaseException")) true := fun M => by
      unfold isInstance
      exact Looks.andThen (lt M) (looks_subIn XB hsub)
    have ck : ∀ {A : Around} {E : Value → Shared → Prop} {Q : Unit → Shared → Prop}, Q () s → wpAny (model prog w) A (checkBuiltinCall "BaseException.__str__" ⟨[.ref e], []⟩) Q E s := fun {A E Q} hq =>
      check_slot (i := "BaseException.__str__") (self := .ref e) (rest := []) (kw := []) (M := model prog w) (A := A) (E := E) (Q := Q) (s := s) (owner := "BaseException") (n := "__str__") bk1 bk2 (hi _) (F.args_bexc_str _) hq
    refine wpAny_call ?_
    refine codeAny_call_builtin (id := "BaseException.__str__") FX.str.plain F.entry_bexc_str ?_
    refine ck ?_
    obtain ⟨ot, k, hto, _, htd⟩ := ht
    unfold Builtin.«BaseException.__str__»
    have ba : ∀ {A : Around} {E : Value → Shared → Prop} {Q : Value × List Value → Shared → Prop}, Q (.ref t, [.str m tk]) s → wpAny (model prog w) A (bexcArgs (.ref e)) Q E s := fun {A E Q} hq => by
      unfold bexcArgs
      refine wpAny_bind (wpAny_field he hd h0 (wpAny_bind (wpAny_seqItems hto htd ?_)))
      exact wpAny_pure hq
    repeat (first | with_reducible refine ba ?_ | wp_step)
    exact hq
  exact callType_new F.called_str (by decide) (F.typeCall_str_1 _) (F.newCall_str_1 _) (fun obj => F.args_object_init_2 obj _) F.entry_str_new
    (meets_str_new (S := fun A' R s' => A'.units + 1 < cLine ∧ s' = s ∧ R (.ok (.ret (.str m tk))) s')
      fun prog' w' A' R s' hq => by obtain ⟨h1, rfl, h2⟩ := hq; exact one _ _ _ _ _ h1 h2)
    ⟨(show A.units + 1 + 1 < cLine from hu), rfl, typeIs_str _ _ _, h⟩
end Mine
end
theorem Mine.anewE9 : True := by
  w_top off
  exact trivial
section
open PySem PySem.W PySem.Calls PyProof.Rows
set_option Elab.async false
set_option maxRecDepth 100000
set_option linter.unusedVariables false
namespace Mine

section
variable {prog : Program} {w : World} {A A₀ : Around} {E : Value → Shared → Prop} {s : Shared} {base g : Heap} {outer : List Env} {L e T : Addr} {m mg mb : Str → Option Value} {cn : Str} {cs : Scope} {a : Addr} {ccd : Value} {cl : List (Str × Addr)}
  {Kf : Frag} {p : Program} {loose : List Str} {mean : ExcName → Option Value} {mods : List Addr} {news : List (Addr × Obj)}

/-- an own exception of a callee is caught by its class's name, with a name of its own -/
theorem caughtT {more : List (Addr × Obj)} {x n : Str} {C : Addr} {words : Str} {s₀ : Shared} {newId : String} {bm : List Value} {np pos : Pos} {b₀ : Stmt} {suite : List Stmt} {rest : List ExceptHandler} {Q : Flow → Shared → Prop}
    (K : Below A₀ base outer g) (F : Fr g L s₀.heap m) (XB : Kf.In base) (TB : Top p loose mean mg mb base) (hmods : ∀ b ∈ mods, g.get? b = none ∧ b ≠ L)
    (O : Out (L :: frs outer) mods s₀.heap s.heap e C words) (hmore : ∀ q ∈ more, s.heap.get? q.1 = some q.2 ∧ g.get? q.1 = none ∧ ∃ v, q.2.data = .fields v ∧ ∀ a, v[1]? ≠ some (.ref a))
    (ex : nsIn Kf mainGlobals x = some (some (.ref C))) (q : excIn Kf C bm newId = true) (hbase : bm.contains (.type "BaseException") = true)
    (k : ∀ g' h' t tk news', KtsTurn (frs outer) g g' → Fr g' L h' (fun y => if y = n then some (.ref e) else m y) → News g' L h' more → Below A₀ base outer g' →
      News g' L h' news' → Got news' e t (.ref C) [.str words tk] →
      wpAny (model prog w) ((A₀.deeper (envX cn cs L a ccd cl)).mark (some (.ref e))) (execs (b₀ :: suite) (envX cn cs L a ccd cl))
        (fun f s₄ => wpAny (model prog w) (A₀.deeper (envX cn cs L a ccd cl)) (do bindName (envX cn cs L a ccd cl) n .none; unbindBehindTheSuite (envX cn cs L a ccd cl) n pos) (fun _ s₅ => Q f s₅) E s₄)
        (AsSuiteRaised (model prog w) ((A₀.deeper (envX cn cs L a ccd cl)).mark (some (.ref e))) (envX cn cs L a ccd cl) n pos (notedBy (model prog w) ((A₀.deeper (envX cn cs L a ccd cl)).mark (some (.ref e))) (envX cn cs L a ccd cl) (cameBackBy (model prog w) (A₀.deeper (envX cn cs L a ccd cl)) (envX cn cs L a ccd cl) E)))
        { s with heap := h', toks := s.toks + 1 })
    (hk : cs.kind = .function := by rfl) (hlo : (envX cn cs L a ccd cl).kindOf n = some .local := by rfl) (hx : (envX cn cs L a ccd cl).kindOf x = some .globalImplicit := by rfl) (hd : (x == ("__debug__" : Str)) = false := by decide) :
    wpAny (model prog w) (A₀.deeper (envX cn cs L a ccd cl)) (noteFrame (.ref e) (envX cn cs L a ccd cl))
      (fun _ s₂ => wpAny (model prog w) (A₀.deeper (envX cn cs L a ccd cl)) (setFlight (.ref e) none) (fun _ s₃ =>
        wpAny (model prog w) (A₀.deeper (envX cn cs L a ccd cl)) (handleBy (.ref e) (envX cn cs L a ccd cl) (.ExceptHandler (some (.Name x np)) (some n) (b₀ :: suite) pos :: rest)) Q E s₃) E s₂) E s := by
  obtain ⟨C0, hen, T, t, vs, tk, x0, hTn, hv0, htt, htn⟩ := O
  have hLm : L ∉ mods := fun z => (hmods L z).2 rfl
  obtain ⟨g0, T0, F0, K0⟩ := ground_turn K F C0 (fun b hb => (hmods b hb).1) hLm
  have K' : Below (A₀.deeper (envX cn cs L a ccd cl)) base (envX cn cs L a ccd cl :: outer) s.heap := pushX K0 F0 rfl hk
  refine noteFrame_next K'.stack K'.frames rfl x0 fun h1 T' C1 hT' x1 => ?_
  refine setFlight_trc (s := { s with heap := h1 }) x1 fun h2 C2 x2 => ?_
  have nf : ∀ {b : Addr} {o : Obj}, s₀.heap.get? b = some o → b ∉ mods → b ∉ [T', e, T] := fun {b o} hb hm hq => by
    obtain ⟨sl, hs⟩ := C0.up hb hm
    rcases List.mem_cons.mp hq with z | hq
    · rw [z, hT'] at hs; cases hs
    rcases List.mem_cons.mp hq with z | hq
    · rw [z, hen] at hb; cases hb
    · rw [List.mem_singleton.mp hq, hTn] at hb; cases hb
  have down : ∀ {h : Heap}, Chg (L :: frs outer) [T', e, T] s.heap h → Chg (L :: frs outer) mods s₀.heap h := fun {h} C =>
    ⟨fun b o hb hm hf => C.keep b o (C0.keep b o hb hm hf) (nf hb hm) hf, fun b o hb hm hf => by
      obtain ⟨s1, h1⟩ := C0.slot b o hb hm hf
      obtain ⟨s2, h2⟩ := C.slot b _ h1 (nf hb hm) hf
      exact ⟨s2, h2⟩⟩
  have C02 : Chg (L :: frs outer) [T', e, T] s.heap h2 := (C1.add T').trans (C2.mono (fun _ h => nomatch h) fun b hb => by rw [List.mem_singleton.mp hb]; exact List.mem_cons_self)
  have hm' : ∀ b ∈ mods, g.get? b = none := fun b hb => (hmods b hb).1
  obtain ⟨g2, T2, F2, K2⟩ := ground_turn K F (down C02) hm' hLm
  have X2 : Kf.In g2 := XB.keeps K2.stays
  have TT2 : Top p loose mean mg mb g2 := TB.keeps K2.stays
  refine wpAny_handleBy_cons (codeAny_handlers_test (nameX_K (s := { s with heap := h2 }) F2 X2 (topRead_of TT2) ex ?_ hk hx hd)) (by intro z; cases z)
  obtain ⟨bm', N', nm, qn, bs, hdct, sn, sub, ab, col, dd, k0, k1, k2, k3, k5, mN, hC, hN, hni, TL⟩ := ((own_of_in X2 (topRead_of TT2) ex q).keeps F2.keep).obj
  obtain ⟨oe2, hoe2, hcl2, hd2⟩ := x2.exc
  refine wpAny_excMatches_sub_self hC hoe2 hcl2 (TL.hasType hbase) (codeAny_handlers_suite_as ?_)
  refine setFlight_trc (s := { s with heap := h2 }) x2 fun h3 C3 x3 => ?_
  have C03 : Chg (L :: frs outer) [T', e, T] s.heap h3 := C02.trans (C3.mono (fun _ h => nomatch h) fun b hb => by rw [List.mem_singleton.mp hb]; exact List.mem_cons_self)
  obtain ⟨g3, T3, F3, K3⟩ := ground_turn K F (down C03) hm' hLm
  have N3 : News g3 L h3 more := fun q hq => by
    obtain ⟨m1, m2, v, m3, m4⟩ := hmore q hq
    obtain ⟨b, ob⟩ := q
    dsimp only at m1 m2 m3 ⊢
    have qL : b ≠ L := fun z => by
      obtain ⟨oL, es, ep, hoL, hdL, _⟩ := F.ns
      obtain ⟨sl, hs⟩ := C0.up hoL hLm
      rw [z, hs] at m1; cases m1; rw [hdL] at m3; cases m3
    have qf : b ∉ frs outer := fun z => by
      obtain ⟨o, ho⟩ := frs_in K z
      rw [m2] at ho; cases ho
    refine ⟨C03.keep _ _ m1 (fun hm => ?_) (fun hm => ?_), qL, T3.none_ _ m2⟩
    · obtain ⟨⟨oe, he, _, hde⟩, htb, _, ⟨oT, ts, hT, hdT, _, q1, hq1⟩⟩ := x0
      rcases List.mem_cons.mp hm with z | hm
      · rw [z, hT'] at m1; cases m1
      rcases List.mem_cons.mp hm with z | hm
      · rw [z, he] at m1; cases m1; rw [hde] at m3; cases m3; exact m4 _ htb
      · rw [List.mem_singleton.mp hm, hT] at m1; cases m1; rw [hdT] at m3; cases m3; exact m4 _ hq1
    · rcases List.mem_cons.mp hm with z | z
      · exact qL z
      · exact qf z
  obtain ⟨oe3, hoe3, hcl3, hd3⟩ := x3.exc
  obtain ⟨ot, nt, hot, hotc, hotd⟩ := htt
  have htF : t ∉ [T', e, T] := fun hq => by
    obtain ⟨⟨oe, he, _, hde⟩, _, _, ⟨oT, ts, hT, hdT, _⟩⟩ := x0
    rcases List.mem_cons.mp hq with z | hq
    · rw [z, hT'] at hot; cases hot
    rcases List.mem_cons.mp hq with z | hq
    · rw [z, he] at hot; cases hot; rw [hde] at hotd; cases hotd
    · rw [List.mem_singleton.mp hq, hT] at hot; cases hot; rw [hdT] at hotd; cases hotd
  obtain ⟨sl, hot3⟩ := C03.up hot htF
  have gnone : ∀ {b}, s₀.heap.get? b = none → g3.get? b = none := fun {b} hb => T3.none_ _ (by
    cases z : g.get? b with
    | none => rfl
    | some o => have := F.keep _ _ z; rw [hb] at this; cases this)
  have Lnone : ∀ {b}, s₀.heap.get? b = none → b ≠ L := fun {b} hb z => by
    obtain ⟨o, _, _, ho, _⟩ := F.ns
    rw [z, ho] at hb; cases hb
  have NE : News g3 L h3 [(e, oe3), (t, { ot with slots := sl })] := fun z hz => by
    rcases List.mem_cons.mp hz with rfl | hz
    · exact ⟨hoe3, Lnone hen, gnone hen⟩
    · rw [List.mem_singleton.mp hz]; exact ⟨hot3, Lnone htn, gnone htn⟩
  refine storeX_L (s := { s with heap := h3 }) F3 (news := more ++ [(e, oe3), (t, { ot with slots := sl })]) (fun z hz => (List.mem_append.mp hz).elim (N3 z) (NE z)) (fun h4 F4 N4 => ?_) hk hlo
  refine k g3 h4 t tk _ T3 F4 (fun z hz => N4 z (List.mem_append_left _ hz)) K3 (fun z hz => N4 z (List.mem_append_right _ hz)) ?_
  refine ⟨oe3, _, _, nt, List.mem_cons_self, List.mem_cons_of_mem _ List.mem_cons_self, hcl3, hd3, ?_, hotc, hotd⟩
  rw [Array.getElem?_setIfInBounds_ne (by decide)]
  exact hv0
end
end Mine
end
theorem Mine.anewTo : True := by
  w_top off
  exact trivial
section
open PySem PySem.W PyProof.Rows PySem.Calls
set_option Elab.async false
set_option maxRecDepth 100000
set_option maxHeartbeats 8000000
set_option linter.unusedVariables false
namespace Mine
def tryH : Stmt → List ExceptHandler
  | .Try _ h _ _ _ => h
  | _ => []

theorem tab_mono {h h' : Heap} (hT : TabN h) (h58 : ∀ ps, h.get? 58 = some (tabObj ps) → h'.get? 58 = some (tabObj ps)) (hc : ∀ c oc vs t, h.get? c = some oc → oc.data = .fields vs → vs[1]? = some (.str "fmean.<locals>.count" t) → ∃ oc', h'.get? c = some oc' ∧ oc'.data = .fields vs) : TabN h' := by
  obtain ⟨ps, hp, hps⟩ := hT
  refine ⟨ps, h58 _ hp, ?_⟩
  rcases hps with rfl | ⟨c', oc, vs, t, rfl, hoc, hdc, hvc⟩
  · exact .inl rfl
  · obtain ⟨oc', h1, h2⟩ := hc _ _ _ _ hoc hdc hvc
    exact .inr ⟨c', oc', vs, t, rfl, h1, h2, hvc⟩
theorem tab_chg {fs : List Addr} {h h' : Heap} (C : Chg fs [] h h') (hf : 58 ∉ fs) (hT : TabN h) : TabN h' :=
  tab_mono hT (fun ps e => C.keep _ _ e nofun hf) fun c oc vs t e d v => by
    obtain ⟨sl, hs⟩ := C.up e nofun
    exact ⟨_, hs, d⟩
theorem tab_hide {h : Heap} {mods : List Addr} (hm : ∀ b ∈ mods, ∃ l i, h.IsListIter b l i) (hT : TabN h) : TabN (hideAll h mods) := by
  have off : ∀ b o v, h.get? b = some o → o.data = .fields v → (∀ a, v[0]? ≠ some (.ref a)) ∨ (∃ q t, v[1]? = some (.str q t)) → b ∉ mods := fun b o v e d hv hb => by
    obtain ⟨l, i, o', ho', hc', hd'⟩ := hm b hb
    rw [e] at ho'; cases ho'
    rw [d] at hd'; cases hd'
    rcases hv with hv | ⟨q, t, hv⟩
    · exact hv l rfl
    · cases hv
  refine tab_mono hT (fun ps e => ?_) fun c oc vs t e d v => ⟨oc, hideAll_get _ e (off _ _ _ e d (.inr ⟨_, _, v⟩)), d⟩
  obtain ⟨ps', hp, hps⟩ := hT
  rw [e] at hp; cases hp
  refine hideAll_get _ e (off _ _ _ e rfl (.inl fun a => ?_))
  rcases hps with rfl | ⟨c', oc, vs, t, rfl, _⟩ <;> simp [rawInt]
theorem list_not_tab {h : Heap} {l : Addr} {items : Array Value} (hT : TabN h) (hl : h.IsList l items) : l ≠ 58 := fun q => by
  obtain ⟨ps, hp, _⟩ := hT
  obtain ⟨o, ho, _, n, hd⟩ := hl
  rw [q, hp] at ho; cases ho; cases hd

theorem told_end {w : World} {p : Program} {loose : List Str} {mean : ExcName → Option Value} {mg mb : Str → Option Value} {dp un : Nat} {gd : Option (List Code)} {cn : Str} {cs : Scope} {L a : Addr} {ccd : Value} {cl : List (Str × Addr)} {outer : List Env} {base : Heap} {s : Shared}
   {Q1 : Flow → Shared → Prop} {E : Value → Shared → Prop} {g h0 : Heap} {L' e : Addr} {m : Str → Option Value} {S : Scope} {hd : List ExceptHandler} {words : Str} (eS : S = defS 6) (eh : hd = tryH (defB 6 0))
   (B : Below (ktrTop dp un gd cn cs L a ccd cl outer) base (envX cn cs L a ccd cl :: outer) g) (X : (hd2.heap_39 w.params).In base) (T : Top p loose mean mg mb base)
   (F : Fr g L' h0 m) (h58 : g.get? 58 = none) (O : Out (L' :: frs (envX cn cs L a ccd cl :: outer)) [] h0 s.heap e 52 words) (hT : TabN s.heap) (hun : un + 12 < cLine)
   (ret : ∀ s' l t u, Chg (frs (envX cn cs L a ccd cl :: outer)) [] g s'.heap → TabN s'.heap → s'.heap.IsList l #[.str "refused" t, .str words u] → g.get? l = none → s'.gens = s.gens → s'.drawn = s.drawn → s'.os = s.os → Q1 (.ret (.ref l)) s') :
   wpAny (model PySem.Challenge.rw_kp0013_02.row.prog w) ((ktrTop dp un gd cn cs L a ccd cl outer).deeper (envOf "_law_told" S L' 77 (.ref 76))) (noteFrame (.ref e) (envOf "_law_told" S L' 77 (.ref 76)))
      (fun _ s₂ => wpAny (model PySem.Challenge.rw_kp0013_02.row.prog w) ((ktrTop dp un gd cn cs L a ccd cl outer).deeper (envOf "_law_told" S L' 77 (.ref 76))) (setFlight (.ref e) none) (fun _ s₃ =>
        wpAny (model PySem.Challenge.rw_kp0013_02.row.prog w) ((ktrTop dp un gd cn cs L a ccd cl outer).deeper (envOf "_law_told" S L' 77 (.ref 76))) (handleBy (.ref e) (envOf "_law_told" S L' 77 (.ref 76)) hd) Q1 E s₃) E s₂) E s := by
  revert X; k_fill; intro X
  conv at eS => rhs; whnf
  conv at eh => rhs; whnf
  subst eS eh
  obtain ⟨ps, hp58, hps⟩ := hT
  have fin : ∃ more : List (Addr × Obj), (∀ q ∈ more, s.heap.get? q.1 = some q.2 ∧ g.get? q.1 = none ∧ ∃ v, q.2.data = .fields v ∧ ∀ a, v[1]? ≠ some (.ref a)) ∧
      ∀ g' h', KtsTurn (frs (envX cn cs L a ccd cl :: outer)) g g' → (∀ b o, g'.get? b = some o → h'.get? b = some o) → (∀ q ∈ more, h'.get? q.1 = some q.2) → TabN h' := by
    rcases hps with rfl | ⟨c', oc, vs, t, rfl, hoc, hdc, hvc⟩
    · refine ⟨[(58, tabObj #[])], ?_, fun g' h' _ _ k => ⟨_, k _ List.mem_cons_self, .inl rfl⟩⟩
      intro q hq
      obtain rfl := List.mem_singleton.mp hq
      exact ⟨hp58, h58, _, rfl, fun a => by simp⟩
    · cases hc : g.get? c' with
      | none =>
        refine ⟨[(58, tabObj #[rawInt 12, rawInt 12, .ref c']), (c', oc)], ?_, fun g' h' _ _ k => ⟨_, k _ List.mem_cons_self, .inr ⟨c', oc, vs, t, rfl, k _ (List.mem_cons_of_mem _ List.mem_cons_self), hdc, hvc⟩⟩⟩
        intro q hq
        rcases List.mem_cons.mp hq with rfl | hq
        · exact ⟨hp58, h58, _, rfl, fun a => by simp [rawInt]⟩
        · obtain rfl := List.mem_singleton.mp hq
          exact ⟨hoc, hc, vs, hdc, fun a => by rw [hvc]; simp⟩
      | some o1 =>
        refine ⟨[(58, tabObj #[rawInt 12, rawInt 12, .ref c'])], ?_, fun g' h' TT kg k => ?_⟩
        · intro q hq
          obtain rfl := List.mem_singleton.mp hq
          exact ⟨hp58, h58, _, rfl, fun a => by simp [rawInt]⟩
        · obtain ⟨sl, hs⟩ := O.chg.up (F.keep _ _ hc) nofun
          rw [hoc] at hs
          obtain ⟨sl2, hs2⟩ := TT.up hc
          exact ⟨_, k _ List.mem_cons_self, .inr ⟨c', _, vs, t, rfl, kg _ _ hs2, by cases hs; exact hdc, hvc⟩⟩
  obtain ⟨more, hmore, hfin⟩ := fin
  refine caughtT (mods := []) (more := more) (s₀ := { s with heap := h0 }) (C := 52) (newId := "ValueError.__new__") (cn := "_law_told") (cl := []) B F X T (fun _ h => nomatch h) O hmore ?ex ?xq PySem.F.excBase_ValueError.hasBase (fun g' h' t tk news' TT F NM K1 N G => ?_) rfl rfl rfl (by decide)
  case ex => k_is
  case xq => k_exc
  change wpAny _ (((ktrTop dp un gd cn cs L a ccd cl outer).deeper (envOf "_law_told" _ L' 77 (.ref 76))).mark (some (.ref e))) (execs _ (envOf "_law_told" _ L' 77 (.ref 76))) _ _ _
  have Xg := X.keeps K1.stays
  have Tg := T.keeps K1.stays
  obtain ⟨oe, ot, ve, nt, gm1, gm2, hcl, hod, h0v, hotc, hotd⟩ := G
  have he := (N _ gm1).1
  have hot := (N _ gm2).1
  replace N : News g' L' h' (more ++ []) := fun q hq => NM q (by simpa using hq)
  clear NM
  rename Fr g L' h0 m => F0
  (repeat' ((fail_if_success (with_reducible first | show wpAny _ _ (call (Value.ref 63) _) _ _ _ | show wpAny _ _ (exec (Stmt.Try _ _ _ _ _) _) _ _ _ | show wpAny _ _ (call (Value.type "str") _) _ _ _)); first | (exfalso; omega) | (k_unfold; (try dsimp only)) | walk1 | (dsimp only; walk1) | (leave1; walk_say "STEP leave1"; try dsimp only)))
  refine str_own PySem.F.excStr_ValueError (Xg.keeps F.keep) ?fi ?su he hcl hod h0v ⟨ot, nt, hot, hotc, hotd⟩ ?ro ?_
  case fi => k_is
  case su => k_is
  case ro => first | units_room | k_room
  (repeat' ((fail_if_success (with_reducible first | show wpAny _ _ (call (Value.ref 63) _) _ _ _ | show wpAny _ _ (exec (Stmt.Try _ _ _ _ _) _) _ _ _ | show wpAny _ _ (call (Value.type "str") _) _ _ _)); first | (exfalso; omega) | (k_unfold; (try dsimp only)) | walk1 | (dsimp only; walk1) | (leave1; walk_say "STEP leave1"; try dsimp only)))
  rename Fr _ _ _ _ => F
  rename News _ _ _ _ => N
  refine PyProof.Rows.name_goes_keeps F N ?_
  intro h9 m9 F9 N9
  obtain ⟨n1, n2, n3⟩ := N9 _ List.mem_cons_self
  refine ret _ _ _ _ ((turn_chg TT).trans (Chg.of_keeps F9.keep)) (hfin g' h9 TT F9.keep fun q hq => (N9 q (by first | ((repeat (first | exact hq | exact List.mem_cons_self | apply List.mem_cons_of_mem)); done) | simp [hq])).1) ⟨_, n1, rfl, _, rfl⟩ ?_ rfl rfl rfl
  cases z : g.get? _ with
  | none => rfl
  | some o =>
    obtain ⟨sl, hs⟩ := TT.up z
    rw [n3] at hs; cases hs
end Mine
end
theorem Mine.anewTw : True := by
  w_top off
  exact trivial
section
open PySem PySem.W PyProof.Rows PySem.Calls
set_option Elab.async false
set_option maxRecDepth 100000
set_option maxHeartbeats 8000000
set_option linter.unusedVariables false
namespace Mine
theorem call_iter_list {prog : Program} {w : World} {A : Around} {E Q : Value → Shared → Prop} {s : Shared} {l : Addr} {items : Array Value} (hl : s.heap.IsList l items)
    (h : Q (.ref s.heap.objs.size) { s with heap := s.heap.push { cls := .type "list_iterator", data := .fields #[.ref l, .int 0 0] } }) :
    wpAny (model prog w) A (call (.builtin "iter") [.ref l]) Q E s := by
  refine call_function_entry (by decide +kernel) (by decide +kernel) kdk_entry_iter (kdk_args_iter _) ?_
  unfold Builtin.«iter»
  refine wpAny_bind (m := someArgs "iter" 1 2 _) (wpAny_of_eq (a := [Value.ref l]) (by first | rfl | kernel_rfl!) ?_)
  show wpAny _ _ (pyIter (.ref l) >>= _) _ _ _
  exact wpAny_bind (wpAny_pyIter_list hl (wpAny_pure ⟨_, rfl, h⟩))
/-- what `_law_told` hands back -/
def ToldV (h h' : Heap) (v : Value) : Except Str UInt64 → Prop
  | .ok x => ∃ t, v = .float x t
  | .error words => ∃ l t u, v = .ref l ∧ h'.IsList l #[.str "refused" t, .str words u] ∧ h.get? l = none

/-- what a call of `fmean` comes to, with weights -/
def ocW (vs ws : List Value) (num : Nm) (ys : List Nm) : Except Str UInt64 :=
  if vs.length ≠ ws.length then .error "data and weights must be the same length"
  else if Float64.isZero (fsumP (ys.map Nm.real)) = true then .error "sum of weights must be non-zero"
  else .ok (Float64.div num.real (fsumP (ys.map Nm.real)))
/-- and without -/
def ocN (vs : List Value) (xs : List Nm) : Except Str UInt64 :=
  if vs.length = 0 then .error "fmean requires at least one data point" else .ok (Float64.div (fsumP (xs.map Nm.real)) (Float64.ofInt vs.length))

theorem fresh_list {s : Shared} {g h' : Heap} {l : Addr} {items : Array Value} (Kp : ∀ b o, b ∉ [58] → s.heap.get? b = some o → g.get? b = some o) (hT : TabN h') (hl : h'.IsList l items) (hg : g.get? l = none) : s.heap.get? l = none := by
  cases z : s.heap.get? l with
  | none => rfl
  | some o =>
    have := Kp l o (by simpa using list_not_tab hT hl) z
    rw [hg] at this; cases this

theorem told_w {w : World} {p : Program} {loose : List Str} {mean : ExcName → Option Value} {mg mb : Str → Option Value} {dp un : Nat} {gd : Option (List Code)} {cn : Str} {cs : Scope} {L a : Addr} {ccd : Value} {cl : List (Str × Addr)} {outer : List Env} {base : Heap} {s : Shared} {Q E : Value → Shared → Prop}
   (K0 : Below (ktrTop dp un gd cn cs L a ccd cl outer) base (envX cn cs L a ccd cl :: outer) s.heap) (hmb : ∀ b ∈ [58], base.get? b = none ∧ b ∉ frs (envX cn cs L a ccd cl :: outer)) (X : (hd2.heap_39 w.params).In base) (T : Top p loose mean mg mb base)
   (hT : TabN s.heap) {x y : Addr} {vs ws : List Value} {ys : List Nm} {num : Nm} {once : Bool} (hx : s.heap.IsList x vs.toArray) (hy : s.heap.IsList y ws.toArray)
   (hS : SumP PySem.Challenge.rw_kp0013_02.row.prog w vs ws num) (hnum : num.fits) (hN : NmsAre ws ys) (hfit : ∀ a ∈ ys, a.fits) (hlen : ys.length < sizeLine) (hok : fsumOk [] (ys.map Nm.real))
   (hroom : dp + 12 < recursionLimit) (hun : un + 12 < cLine)
   (res : ∀ s' v, Chg (frs (envX cn cs L a ccd cl :: outer)) [58] s.heap s'.heap → TabN s'.heap → GBare s.gens s'.gens → s'.drawn = s.drawn → s'.os = s.os → ToldV s.heap s'.heap v (ocW vs ws num ys) → Q v s') :
   wpAny (model PySem.Challenge.rw_kp0013_02.row.prog w) (ktrTop dp un gd cn cs L a ccd cl outer) (call (.ref 77) [.ref x, .ref y, .bool once]) Q E s := by
  revert X; k_fill; intro X
  refine wpAny_call ?_
  refine' enter_plain2 (mods := [58]) (binds := [("data", .ref x), ("weights", .ref y), ("once", .bool once)]) K0 hmb X T ?ho ?hcd ?hroom ?hbind ?hloc ?_ ?hcell ?hco ?hgen ?hk
  case ho => k_is
  case hcd => k_is
  case hroom => ktr_room
  case hbind => exact BindsTo.of_eq rfl
  case hloc => intro y hy; simp only [List.mem_cons, List.not_mem_nil, or_false] at hy; rcases hy with rfl | rfl | rfl <;> exact rfl
  case hcell => decide
  case hco => exact rfl
  case hgen => exact rfl
  case hk => exact rfl
  intro g L' h₁ F B Xg Tg Kp hmg hkeep hL'
  (try dsimp only)
  have hT1 : TabN h₁ := tab_mono hT (fun ps e => hkeep _ _ e) fun c oc vs t e d _ => ⟨oc, hkeep _ _ e, d⟩
  have h58L : 58 < L' := by
    obtain ⟨ps, hp, _⟩ := hT
    rw [hL']; exact Heap.lt_size hp
  have xn : x ≠ 58 := list_not_tab hT hx
  have yn : y ≠ 58 := list_not_tab hT hy
  have gx : g.IsList x vs.toArray := hx.at fun o e => Kp _ _ (by simpa using xn) e
  have gy : g.IsList y ws.toArray := hy.at fun o e => Kp _ _ (by simpa using yn) e
  have hg58 : g.get? 58 = none := hmg 58 (by first | ((repeat (first | exact List.mem_cons_self | apply List.mem_cons_of_mem)); done) | simp)
  have n58 : 58 ∉ L' :: frs (envX cn cs L a ccd cl :: outer) := fun q => by
    rcases List.mem_cons.mp q with q | q
    · exact Nat.ne_of_lt h58L q
    · exact (hmb 58 (by first | ((repeat (first | exact List.mem_cons_self | apply List.mem_cons_of_mem)); done) | simp)).2 q
  cases once
  · (repeat' ((fail_if_success (with_reducible first | show wpAny _ _ (call (Value.ref 63) _) _ _ _ | show wpAny _ _ (exec (Stmt.Try _ _ _ _ _) _) _ _ _ | show wpAny _ _ (call (Value.type "str") _) _ _ _)); first | (exfalso; omega) | (k_unfold; (try dsimp only)) | walk1 | (dsimp only; walk1) | (leave1; walk_say "STEP leave1"; try dsimp only)))
    refine wpAny_Try_except ?_
    (repeat' ((fail_if_success (with_reducible first | show wpAny _ _ (call (Value.ref 63) _) _ _ _ | show wpAny _ _ (exec (Stmt.Try _ _ _ _ _) _) _ _ _ | show wpAny _ _ (call (Value.type "str") _) _ _ _)); first | (exfalso; omega) | (k_unfold; (try dsimp only)) | walk1 | (dsimp only; walk1) | (leave1; walk_say "STEP leave1"; try dsimp only)))
    refine fm_wl (pushX B F rfl rfl) X T (hx.at fun o e => hkeep _ _ e) (hy.at fun o e => hkeep _ _ e) hS hnum hN hfit hlen hok ?ro ?ru ?ret ?err
    case ro => exact (show dp + 1 + 8 < recursionLimit by omega)
    case ru => exact (show un + 3 + 8 < cLine by omega)
    case ret =>
      intro heq hz s' t k g1 d1 o1
      refine res s' _ ((Chg.of_keeps_but fun b o e m => Kp b o m e).trans (Chg.of_keeps fun b o e => k _ _ (F.keep _ _ e))) (tab_mono hT1 (fun ps e => k _ _ e) fun c oc vs t e d _ => ⟨oc, k _ _ e, d⟩) (by rw [g1]; exact fun z => z) d1 o1 ?_
      unfold ocW
      rw [if_neg (by simp [heq]), if_neg (by simp [hz])]
      exact ⟨t, rfl⟩
    case err =>
      intro s' e words hc O g1 d1 o1
      refine told_end rfl rfl B X T F hg58 O (tab_chg O.chg n58 hT1) hun ?_
      intro s'' l t u C hT2 hl hgl g2 d2 o2
      refine res s'' _ ((Chg.of_keeps_but fun b o e m => Kp b o m e).trans (C.mono (fun _ h => h) fun _ h => nomatch h)) hT2 (by rw [g2, g1]; exact fun z => z) (d2.trans d1) (o2.trans o1) ?_
      unfold ocW
      rcases hc with ⟨hne, rfl⟩ | ⟨heq, hz, rfl⟩
      · rw [if_pos hne]; exact ⟨l, t, u, rfl, hl, fresh_list Kp hT2 hl hgl⟩
      · rw [if_neg (by simp [heq]), if_pos hz]; exact ⟨l, t, u, rfl, hl, fresh_list Kp hT2 hl hgl⟩
  · (repeat' ((fail_if_success (with_reducible first | show wpAny _ _ (call (Value.ref 63) _) _ _ _ | show wpAny _ _ (exec (Stmt.Try _ _ _ _ _) _) _ _ _ | show wpAny _ _ (call (Value.type "str") _) _ _ _)); first | (exfalso; omega) | (k_unfold; (try dsimp only)) | walk1 | (dsimp only; walk1) | (leave1; walk_say "STEP leave1"; try dsimp only)))
    refine wpAny_Try_except ?_
    (repeat' ((fail_if_success (with_reducible first | show wpAny _ _ (call (Value.ref 63) _) _ _ _ | show wpAny _ _ (exec (Stmt.Try _ _ _ _ _) _) _ _ _ | show wpAny _ _ (call (Value.type "str") _) _ _ _)); first | (exfalso; omega) | (k_unfold; (try dsimp only)) | walk1 | (dsimp only; walk1) | (leave1; walk_say "STEP leave1"; try dsimp only)))
    rename Fr _ _ _ _ => F
    refine call_iter_list (gx.at fun o e => F.keep _ _ e) ?_
    have F1 := F.push { cls := .type "list_iterator", data := .fields #[.ref x, .int 0 0] }
    have N1 := News.push F News.nil { cls := .type "list_iterator", data := .fields #[.ref x, .int 0 0] } rfl
    have hpush : ∀ b o, h₁.get? b = some o → (h₁.push { cls := .type "list_iterator", data := .fields #[.ref x, .int 0 0] }).get? b = some o := fun b o e => Heap.get?_push_of_some _ e
    generalize h₁.push { cls := .type "list_iterator", data := .fields #[.ref x, .int 0 0] } = h2 at *
    (repeat' ((fail_if_success (with_reducible first | show wpAny _ _ (call (Value.ref 63) _) _ _ _ | show wpAny _ _ (exec (Stmt.Try _ _ _ _ _) _) _ _ _ | show wpAny _ _ (call (Value.type "str") _) _ _ _)); first | (exfalso; omega) | (k_unfold; (try dsimp only)) | walk1 | (dsimp only; walk1) | (leave1; walk_say "STEP leave1"; try dsimp only)))
    rename Fr _ _ _ _ => F
    refine call_iter_list (gy.at fun o e => F.keep _ _ e) ?_
    have N2 := News.push F N1 { cls := .type "list_iterator", data := .fields #[.ref y, .int 0 0] } rfl
    have F2 := F.push { cls := .type "list_iterator", data := .fields #[.ref y, .int 0 0] }
    have hIJ : h₁.objs.size ≠ h2.objs.size := Nat.ne_of_lt (Heap.lt_size (N1 _ List.mem_cons_self).1)
    have k2 : ∀ b o, h₁.get? b = some o → h2.get? b = some o := hpush
    have k3 : ∀ b o, h2.get? b = some o → (h2.push { cls := .type "list_iterator", data := .fields #[.ref y, .int 0 0] }).get? b = some o := fun b o e => Heap.get?_push_of_some _ e
    have nI1 : h₁.get? h₁.objs.size = none := Heap.get?_none_of_le (Nat.le_refl _)
    have nJ1 : h₁.get? h2.objs.size = none := by
      cases z : h₁.get? h2.objs.size with
      | none => rfl
      | some o => exact absurd (Heap.lt_size (k2 _ _ z)) (Nat.lt_irrefl _)
    generalize h2.push { cls := .type "list_iterator", data := .fields #[.ref y, .int 0 0] } = h3 at *
    generalize h2.objs.size = J at *
    generalize h₁.objs.size = I at *
    clear F N1
    (repeat' ((fail_if_success (with_reducible first | show wpAny _ _ (call (Value.ref 63) _) _ _ _ | show wpAny _ _ (exec (Stmt.Try _ _ _ _ _) _) _ _ _ | show wpAny _ _ (call (Value.type "str") _) _ _ _)); first | (exfalso; omega) | (k_unfold; (try dsimp only)) | walk1 | (dsimp only; walk1) | (leave1; walk_say "STEP leave1"; try dsimp only)))
    rename Fr _ _ _ _ => F
    have nI := N2 (I, _) (List.mem_cons_of_mem _ List.mem_cons_self)
    have nJ := N2 (J, _) List.mem_cons_self
    have hT3 : TabN h3 := tab_mono hT1 (fun ps e => k3 _ _ (k2 _ _ e)) fun c oc vs t e d _ => ⟨oc, k3 _ _ (k2 _ _ e), d⟩
    have bn : ∀ b ∈ [I, J], g.get? b = none ∧ b ≠ L' := fun b hb => by
      simp only [List.mem_cons, List.not_mem_nil, or_false] at hb
      rcases hb with rfl | rfl
      · exact ⟨nI.2.2, nI.2.1⟩
      · exact ⟨nJ.2.2, nJ.2.1⟩
    refine fm_wi (I := I) (J := J) (pushX B F rfl rfl) ?mb X T ⟨_, nI.1, rfl, rfl⟩ (gx.at fun o e => F.keep _ _ e) ⟨_, nJ.1, rfl, rfl⟩ (gy.at fun o e => F.keep _ _ e) hIJ hS hnum hN hfit hlen hok ?ro ?ru ?ret ?err
    case mb =>
      intro b hb
      obtain ⟨b1, b2⟩ := bn b hb
      refine ⟨fresh_of_stays B.stays b1, fun q => ?_⟩
      rcases List.mem_cons.mp q with q | q
      · exact b2 q
      · obtain ⟨o, ho⟩ := frs_in B q
        rw [b1] at ho; cases ho
    case ro => exact (show dp + 1 + 8 < recursionLimit by omega)
    case ru => exact (show un + 3 + 8 < cLine by omega)
    case ret =>
      intro heq hz s' t k g1 d1 o1
      have off : ∀ b o, h₁.get? b = some o → s'.heap.get? b = some o := fun b o e => k b o (fun hb => by
        simp only [List.mem_cons, List.not_mem_nil, or_false] at hb
        rcases hb with rfl | rfl
        · rw [nI1] at e; cases e
        · rw [nJ1] at e; cases e) (k3 _ _ (k2 _ _ e))
      refine res s' _ ((Chg.of_keeps_but fun b o e m => Kp b o m e).trans (Chg.of_keeps fun b o e => k _ _ (fun hb => by rw [(bn b hb).1] at e; cases e) (F.keep _ _ e))) (tab_mono hT1 (fun ps e => off _ _ e) fun c oc vs t e d _ => ⟨oc, off _ _ e, d⟩) (by rw [g1]; exact fun z => z) d1 o1 ?_
      unfold ocW
      rw [if_neg (by simp [heq]), if_neg (by simp [hz])]
      exact ⟨t, rfl⟩
    case err =>
      intro s' e words hc O g1 d1 o1
      have O0 := O (hideAll h3 [I, J]) fun b o e => ⟨of_hideAll _ e, fun hb => by rw [hideAll_none _ hb] at e; cases e⟩
      have hT4 : TabN (hideAll h3 [I, J]) := tab_hide (fun b hb => by
        simp only [List.mem_cons, List.not_mem_nil, or_false] at hb
        rcases hb with rfl | rfl
        · exact ⟨_, _, _, nI.1, rfl, rfl⟩
        · exact ⟨_, _, _, nJ.1, rfl, rfl⟩) hT3
      refine told_end rfl rfl B X T (frBut (P := [I, J]) (h' := hideAll h3 [I, J]) F (fun b o m e => hideAll_get _ e m) (fun q => (bn _ q).2 rfl) fun b hb => (bn b hb).1) hg58 O0 (tab_chg O0.chg n58 hT4) hun ?_
      intro s'' l t u C hT2 hl hgl g2 d2 o2
      refine res s'' _ ((Chg.of_keeps_but fun b o e m => Kp b o m e).trans (C.mono (fun _ h => h) fun _ h => nomatch h)) hT2 (by rw [g2, g1]; exact fun z => z) (d2.trans d1) (o2.trans o1) ?_
      unfold ocW
      rcases hc with ⟨hne, rfl⟩ | ⟨heq, hz, rfl⟩
      · rw [if_pos hne]; exact ⟨l, t, u, rfl, hl, fresh_list Kp hT2 hl hgl⟩
      · rw [if_neg (by simp [heq]), if_pos hz]; exact ⟨l, t, u, rfl, hl, fresh_list Kp hT2 hl hgl⟩
end Mine
end
theorem Mine.anewTn : True := by
  w_top off
  exact trivial
section
open PySem PySem.W PyProof.Rows PySem.Calls
set_option Elab.async false
set_option maxRecDepth 100000
set_option maxHeartbeats 8000000
set_option linter.unusedVariables false
namespace Mine
theorem told_n {w : World} {p : Program} {loose : List Str} {mean : ExcName → Option Value} {mg mb : Str → Option Value} {dp un : Nat} {gd : Option (List Code)} {cn : Str} {cs : Scope} {L a : Addr} {ccd : Value} {cl : List (Str × Addr)} {outer : List Env} {base : Heap} {s : Shared} {Q E : Value → Shared → Prop}
   (K0 : Below (ktrTop dp un gd cn cs L a ccd cl outer) base (envX cn cs L a ccd cl :: outer) s.heap) (hmb : ∀ b ∈ [58], base.get? b = none ∧ b ∉ frs (envX cn cs L a ccd cl :: outer)) (X : (hd2.heap_39 w.params).In base) (T : Top p loose mean mg mb base)
   (hT : TabN s.heap) (C58 : CodeHd base 62 58) {x : Addr} {vs : List Value} {xs : List Nm} {once : Bool} (hx : s.heap.IsList x vs.toArray)
   (hN : NmsAre vs xs) (hfit : ∀ a ∈ xs, a.fits) (hlen : xs.length ≤ 1000) (hok : fsumOk [] (xs.map Nm.real))
   (hroom : dp + 12 < recursionLimit) (hun : un + 12 < cLine)
   (res : ∀ s' v, Chg (frs (envX cn cs L a ccd cl :: outer)) [58] s.heap s'.heap → TabN s'.heap → GBare s.gens s'.gens → s'.drawn = s.drawn → s'.os = s.os → ToldV s.heap s'.heap v (ocN vs xs) → Q v s') :
   wpAny (model PySem.Challenge.rw_kp0013_02.row.prog w) (ktrTop dp un gd cn cs L a ccd cl outer) (call (.ref 77) [.ref x, .none, .bool once]) Q E s := by
  revert X; k_fill; intro X
  refine wpAny_call ?_
  refine' enter_plain2 (mods := [58]) (binds := [("data", .ref x), ("weights", .none), ("once", .bool once)]) K0 hmb X T ?ho ?hcd ?hroom ?hbind ?hloc ?_ ?hcell ?hco ?hgen ?hk
  case ho => k_is
  case hcd => k_is
  case hroom => ktr_room
  case hbind => exact BindsTo.of_eq rfl
  case hloc => intro y hy; simp only [List.mem_cons, List.not_mem_nil, or_false] at hy; rcases hy with rfl | rfl | rfl <;> exact rfl
  case hcell => decide
  case hco => exact rfl
  case hgen => exact rfl
  case hk => exact rfl
  intro g L' h₁ F B Xg Tg Kp hmg hkeep hL'
  (try dsimp only)
  have hT1 : TabN h₁ := tab_mono hT (fun ps e => hkeep _ _ e) fun c oc vs t e d _ => ⟨oc, hkeep _ _ e, d⟩
  have h58L : 58 < L' := by
    obtain ⟨ps, hp, _⟩ := hT
    rw [hL']; exact Heap.lt_size hp
  have xn : x ≠ 58 := list_not_tab hT hx
  have gx : g.IsList x vs.toArray := hx.at fun o e => Kp _ _ (by simpa using xn) e
  have hg58 : g.get? 58 = none := hmg 58 (by first | ((repeat (first | exact List.mem_cons_self | apply List.mem_cons_of_mem)); done) | simp)
  have n58 : 58 ∉ L' :: frs (envX cn cs L a ccd cl :: outer) := fun q => by
    rcases List.mem_cons.mp q with q | q
    · exact Nat.ne_of_lt h58L q
    · exact (hmb 58 (by first | ((repeat (first | exact List.mem_cons_self | apply List.mem_cons_of_mem)); done) | simp)).2 q
  cases once
  · (repeat' ((fail_if_success (with_reducible first | show wpAny _ _ (call (Value.ref 63) _) _ _ _ | show wpAny _ _ (exec (Stmt.Try _ _ _ _ _) _) _ _ _ | show wpAny _ _ (call (Value.type "str") _) _ _ _)); first | (exfalso; omega) | (k_unfold; (try dsimp only)) | walk1 | (dsimp only; walk1) | (leave1; walk_say "STEP leave1"; try dsimp only)))
    refine wpAny_Try_except ?_
    (repeat' ((fail_if_success (with_reducible first | show wpAny _ _ (call (Value.ref 63) _) _ _ _ | show wpAny _ _ (exec (Stmt.Try _ _ _ _ _) _) _ _ _ | show wpAny _ _ (call (Value.type "str") _) _ _ _)); first | (exfalso; omega) | (k_unfold; (try dsimp only)) | walk1 | (dsimp only; walk1) | (leave1; walk_say "STEP leave1"; try dsimp only)))
    refine fm_nl (pushX B F rfl rfl) X T (hx.at fun o e => hkeep _ _ e) hN hfit hlen hok ?ro ?ru ?ret ?err
    case ro => exact (show dp + 1 + 8 < recursionLimit by omega)
    case ru => exact (show un + 3 + 8 < cLine by omega)
    case ret =>
      intro hpos s' t k g1 d1 o1
      refine res s' _ ((Chg.of_keeps_but fun b o e m => Kp b o m e).trans (Chg.of_keeps fun b o e => k _ _ (F.keep _ _ e))) (tab_mono hT1 (fun ps e => k _ _ e) fun c oc vs t e d _ => ⟨oc, k _ _ e, d⟩) (by rw [g1]; exact fun z => z) d1 o1 ?_
      unfold ocN
      rw [if_neg (Nat.ne_of_gt hpos)]
      exact ⟨t, rfl⟩
    case err =>
      intro s' e h0 O g1 d1 o1
      refine told_end rfl rfl B X T F hg58 O (tab_chg O.chg n58 hT1) hun ?_
      intro s'' l t u C hT2 hl hgl g2 d2 o2
      refine res s'' _ ((Chg.of_keeps_but fun b o e m => Kp b o m e).trans (C.mono (fun _ h => h) fun _ h => nomatch h)) hT2 (by rw [g2, g1]; exact fun z => z) (d2.trans d1) (o2.trans o1) ?_
      unfold ocN
      rw [if_pos h0]; exact ⟨l, t, u, rfl, hl, fresh_list Kp hT2 hl hgl⟩
  · (repeat' ((fail_if_success (with_reducible first | show wpAny _ _ (call (Value.ref 63) _) _ _ _ | show wpAny _ _ (exec (Stmt.Try _ _ _ _ _) _) _ _ _ | show wpAny _ _ (call (Value.type "str") _) _ _ _)); first | (exfalso; omega) | (k_unfold; (try dsimp only)) | walk1 | (dsimp only; walk1) | (leave1; walk_say "STEP leave1"; try dsimp only)))
    refine wpAny_Try_except ?_
    (repeat' ((fail_if_success (with_reducible first | show wpAny _ _ (call (Value.ref 63) _) _ _ _ | show wpAny _ _ (exec (Stmt.Try _ _ _ _ _) _) _ _ _ | show wpAny _ _ (call (Value.type "str") _) _ _ _)); first | (exfalso; omega) | (k_unfold; (try dsimp only)) | walk1 | (dsimp only; walk1) | (leave1; walk_say "STEP leave1"; try dsimp only)))
    rename Fr _ _ _ _ => F
    refine call_iter_list (gx.at fun o e => F.keep _ _ e) ?_
    have F2 := F.push { cls := .type "list_iterator", data := .fields #[.ref x, .int 0 0] }
    have N2 := News.push F News.nil { cls := .type "list_iterator", data := .fields #[.ref x, .int 0 0] } rfl
    have k3 : ∀ b o, h₁.get? b = some o → (h₁.push { cls := .type "list_iterator", data := .fields #[.ref x, .int 0 0] }).get? b = some o := fun b o e => Heap.get?_push_of_some _ e
    have nI1 : h₁.get? h₁.objs.size = none := Heap.get?_none_of_le (Nat.le_refl _)
    have iI : 58 ≠ h₁.objs.size := Nat.ne_of_lt (Nat.lt_trans h58L F.ns.lt)
    generalize h₁.push { cls := .type "list_iterator", data := .fields #[.ref x, .int 0 0] } = h3 at *
    generalize h₁.objs.size = I at *
    clear F
    (repeat' ((fail_if_success (with_reducible first | show wpAny _ _ (call (Value.ref 63) _) _ _ _ | show wpAny _ _ (exec (Stmt.Try _ _ _ _ _) _) _ _ _ | show wpAny _ _ (call (Value.type "str") _) _ _ _)); first | (exfalso; omega) | (k_unfold; (try dsimp only)) | walk1 | (dsimp only; walk1) | (leave1; walk_say "STEP leave1"; try dsimp only)))
    rename Fr _ _ _ _ => F
    have nI := N2 (I, _) List.mem_cons_self
    have hT3 : TabN h3 := tab_mono hT1 (fun ps e => k3 _ _ e) fun c oc vs t e d _ => ⟨oc, k3 _ _ e, d⟩
    refine fm_ni (I := I) (pushX B F rfl rfl) ?mb X T C58 hT3 ⟨_, nI.1, rfl, rfl⟩ (gx.at fun o e => F.keep _ _ e) hN hfit hlen hok ?ro ?ru ?ret ?err
    case mb =>
      intro b hb
      simp only [List.mem_cons, List.not_mem_nil, or_false] at hb
      rcases hb with rfl | rfl
      · exact ⟨(hmb 58 (by first | ((repeat (first | exact List.mem_cons_self | apply List.mem_cons_of_mem)); done) | simp)).1, n58⟩
      refine ⟨fresh_of_stays B.stays nI.2.2, fun q => ?_⟩
      rcases List.mem_cons.mp q with q | q
      · exact nI.2.1 q
      · obtain ⟨o, ho⟩ := frs_in B q
        rw [nI.2.2] at ho; cases ho
    case ro => exact (show dp + 1 + 8 < recursionLimit by omega)
    case ru => exact (show un + 3 + 8 < cLine by omega)
    case ret =>
      intro hpos s' t C hT4 g1 d1 o1
      have C1 : Chg (frs (envX cn cs L a ccd cl :: outer)) [58] g s'.heap := by
        refine ⟨fun b o e m f => C.keep b o (F.keep b o e) (fun hb => ?_) (fun hb => ?_), fun b o e m f => C.slot b o (F.keep b o e) (fun hb => ?_) (List.mem_cons_of_mem _ f)⟩
        · simp only [List.mem_cons, List.not_mem_nil, or_false] at hb m
          rcases hb with hb | hb
          · exact m hb
          · rw [hb, nI.2.2] at e; cases e
        · rcases List.mem_cons.mp hb with hb | hb
          · rw [hb, self_none F] at e; cases e
          · exact f hb
        · simp only [List.mem_cons, List.not_mem_nil, or_false] at hb m
          rcases hb with hb | hb
          · exact m hb
          · rw [hb, nI.2.2] at e; cases e
      refine res s' _ ((Chg.of_keeps_but fun b o e m => Kp b o m e).trans C1) hT4 g1 d1 o1 ?_
      unfold ocN
      rw [if_neg (Nat.ne_of_gt hpos)]
      exact ⟨t, rfl⟩
    case err =>
      intro s' e h0 O hT4 g1 d1 o1
      have O0 := O (hideAll h3 [58, I]) fun b o e => ⟨of_hideAll _ e, fun hb => by rw [hideAll_none _ hb] at e; cases e⟩
      refine told_end rfl rfl B X T (frBut (P := [58, I]) (h' := hideAll h3 [58, I]) F (fun b o m e => hideAll_get _ e m) (fun q => ?_) fun b hb => ?_) hg58 O0 hT4 hun ?_
      · simp only [List.mem_cons, List.not_mem_nil, or_false] at q
        rcases q with q | q
        · exact Nat.ne_of_gt h58L q
        · exact nI.2.1 q.symm
      · simp only [List.mem_cons, List.not_mem_nil, or_false] at hb
        rcases hb with rfl | rfl
        · exact hg58
        · exact nI.2.2
      intro s'' l t u C hT2 hl hgl g2 d2 o2
      refine res s'' _ ((Chg.of_keeps_but fun b o e m => Kp b o m e).trans (C.mono (fun _ h => h) fun _ h => nomatch h)) hT2 (by rw [g2]; exact g1) (d2.trans d1) (o2.trans o1) ?_
      unfold ocN
      rw [if_pos h0]; exact ⟨l, t, u, rfl, hl, fresh_list Kp hT2 hl hgl⟩
end Mine
end
theorem Mine.anewR1 : True := by
  w_top off
  exact trivial
section
open PySem PySem.W PySem.Calls PyProof.Rows
set_option Elab.async false
set_option maxRecDepth 100000
set_option linter.unusedVariables false
namespace Mine
section
variable {prog : Program} {w : World} {A : Around} {E : Value → Shared → Prop} {s : Shared} {env : Env}
/-- a loop over an iterator, with an invariant of states -/
theorem loop_walks {R : Result → Shared → Prop} {x : Str} {px : Pos} {body : List Stmt} {I : Addr} {fp wr : List Addr} {n : Nat} {P : Nat → Value → Prop} {St : Nat → Heap → Prop} (W : Walks prog w A I fp wr n P St) (Inv : Nat → Shared → Prop)
    (it : ∀ i s', Inv i s' → St i s'.heap) (start : Inv 0 s)
    (turn : ∀ i v s' h' tk E', i < n → Inv i s' → P i v → St (i + 1) h' → (∀ b o, b ∉ wr → s'.heap.get? b = some o → h'.get? b = some o) →
      wpAny (model prog w) A (storeName env x v) (fun _ s₂ => wpAny (model prog w) A (execs body env) (fun f s₃ => match f with
        | .next | .cont => Inv (i + 1) s₃
        | .brk => R (.ok .next) s₃
        | .ret v => R (.ok (.ret v)) s₃) E' s₂) E' { s' with heap := h', toks := tk })
    (done : ∀ s' h' tk, Inv n s' → (∀ b o, b ∉ wr → s'.heap.get? b = some o → h'.get? b = some o) → R (.ok .next) { s' with heap := h', toks := tk }) :
    codeAny (model prog w) A (.forLoop (.Name x px) (.ref I) body [] env) R s := by
  refine codeAny_forLoop_any (fun k s' => ∃ i, i ≤ n ∧ k = n - i ∧ Inv i s') ?_ n ⟨0, Nat.zero_le _, rfl, start⟩
  rintro k s' ⟨i, hi, rfl, hI⟩
  rcases Nat.lt_or_ge i n with hlt | hge
  · refine W.item i s' _ _ hlt (it i s' hI) fun v h' tk hP hst hk => ?_
    refine wpAny_of_eq (rfl : letOwnedTupleGo (.Name x px) (.ref I) v = pure ()) ?_
    refine wpAny_assign_Name (wpAny_mono (turn i v s' h' tk _ hlt hI hP hst hk) (fun _ s₂ h₂ => ?_) fun _ _ e => e)
    refine wpAny_mono h₂ (fun f s₃ h₃ => ?_) fun _ _ e => e
    cases f with
    | next => exact ⟨n - (i + 1), by omega, i + 1, hlt, rfl, h₃⟩
    | cont => exact ⟨n - (i + 1), by omega, i + 1, hlt, rfl, h₃⟩
    | brk => exact h₃
    | ret v => exact h₃
  · have e : i = n := Nat.le_antisymm hi hge
    subst e
    refine W.done s' _ _ (it _ s' hI) fun h' tk hk => ?_
    exact wpAny_execs_nil (done s' h' tk hI hk)

/-- a loop over a tuple -/
theorem for_tup {env : Env} {x : Str} {px pos : Pos} {iter : Expr} {body : List Stmt} {Q : Flow → Shared → Prop} (hA : A.handled = none)
    (h : wpAny (model prog w) A (eval iter env) (fun xv s₁ => ∃ tp items, xv = .ref tp ∧ s₁.heap.IsTuple tp items ∧ ∀ I h', s₁.heap.objs.size ≤ I → (∀ b o, s₁.heap.get? b = some o → h'.get? b = some o) → h'.IsTupleIter I tp 0 → h'.IsTuple tp items →
      ∃ Inv : Nat → Shared → Prop, Inv 0 { s₁ with heap := h' } ∧ (∀ i s', Inv i s' → s'.heap.IsTupleIter I tp i ∧ s'.heap.IsTuple tp items) ∧
      (∀ i v s' h' tk E' (K : Flow → Shared → Prop), (∀ s₃, Inv (i + 1) s₃ → K .next s₃) → items[i]? = some v → Inv i s' → h'.IsTupleIter I tp (i + 1) → h'.IsTuple tp items → (∀ b o, b ≠ I → s'.heap.get? b = some o → h'.get? b = some o) →
        wpAny (model prog w) A (storeName env x v) (fun _ s₂ => wpAny (model prog w) A (execs body env) K E' s₂) E' { s' with heap := h', toks := tk }) ∧
      (∀ s' h' tk, Inv items.size s' → (∀ b o, b ≠ I → s'.heap.get? b = some o → h'.get? b = some o) → Q .next { s' with heap := h', toks := tk })) E s)
    (hs : ∀ x, foldedSetIterable iter env x = pure x := by intro _; rfl) :
    wpAny (model prog w) A (exec (.For (.Name x px) iter body [] pos) env) Q E s := by
  refine wpAny_For (wpAny_mono h (fun xv s₁ h₁ => ?_) fun _ _ e => e) hs
  obtain ⟨tp, items, rfl, ht, h₂⟩ := h₁
  have hlt : tp < s₁.heap.objs.size := by obtain ⟨_, e, _⟩ := ht; exact Heap.lt_size e
  have up : ∀ b o, s₁.heap.get? b = some o → (s₁.heap.push { cls := .type "tuple_iterator", data := .fields #[.ref tp, .int 0 0] }).get? b = some o := fun b o e => Heap.get?_push_of_some _ e
  refine wpAny_pyIter_tuple ht ?_
  obtain ⟨Inv, h0, hit, hturn, hdone⟩ := h₂ _ _ (Nat.le_refl _) up ⟨_, Heap.get?_push_size _ rfl, rfl, rfl⟩ (ht.at fun _ e => up _ _ e)
  refine loop_walks (Walks.tuple (prog := prog) (w := w) (A := A) hA s₁.heap.objs.size tp (Nat.ne_of_lt hlt) items) Inv (fun i s' hI => hit i s' hI) h0 (fun i v s' h' tk E' hi hI hP hst hk => ?_) (fun s' h' tk hI hk => hdone s' h' tk hI fun b o hb e => hk b o (by simpa using hb) e)
  exact hturn i v s' h' tk E' _ (fun _ h => h) hP hI hst.1 hst.2 fun b o hb e => hk b o (by simpa using hb) e
end
open SeqAt in
theorem eq_copy {A : Around} {s : Shared} {l b : Addr} {items : Array Value} (hl : s.heap.IsList l items) (hb : s.heap.IsList b items) (hu : A.units < cLine) : EqAt A s (.ref l) (.ref b) true := by
  by_cases h : l = b
  · rw [h]; exact EqAt.same _
  · have e : ∀ n : Nat, ((List.range n).all fun _ => true) = true := fun n => List.all_eq_true.mpr fun _ _ => rfl
    have := EqAt.of_refs h (RcAt.lists (e := fun _ => true) hl hb rfl hu fun j _ _ => EqAt.same _)
    rwa [e] at this
/-- two lists of two items that are alike -/
theorem ne_two {prog : Program} {w : World} {A : Around} {E : Value → Shared → Prop} {s : Shared} {l b : Addr} {x y x' y' : Value} {Q : Value → Shared → Prop} (hl : s.heap.IsList l #[x, y]) (hb : s.heap.IsList b #[x', y']) (hu : A.units < cLine)
    (e1 : SeqAt.EqAt A.in1 s x x' true) (e2 : SeqAt.EqAt A.in1 s y y' true) (h : Q (.bool false) s) : wpAny (model prog w) A (compareOp .NotEq (.ref l) (.ref b)) Q E s := by
  refine SeqAt.RcNeAt.lists (e := fun _ => true) hl hb rfl hu (fun j h1 h2 => ?_) prog w E Q h
  match j with
  | 0 => exact e1
  | 1 => exact e2
  | j + 2 => exact absurd h1 (by first | ((repeat (first | exact List.mem_cons_self | apply List.mem_cons_of_mem)); done) | simp)
theorem eq_str {A : Around} {s : Shared} (x : Str) (t u : Tok) : SeqAt.EqAt A s (.str x t) (.str x u) true := by
  have := SeqAt.EqAt.str_str (A := A) (s := s) x t x u
  rwa [beq_self_eq_true] at this

/-- what carries the code's table through a walk -/
theorem tab_more {g h : Heap} {L : Addr} {m : Str → Option Value} (F : Fr g L h m) (h58 : g.get? 58 = none) (hT : TabN h) :
    ∃ more : List (Addr × Obj), News g L h more ∧ ∀ h', (∀ b o, g.get? b = some o → h'.get? b = some o) → (∀ q ∈ more, h'.get? q.1 = some q.2) → TabN h' := by
  have offL : ∀ b o v, h.get? b = some o → o.data = .fields v → b ≠ L := fun b o v e d q => by
    obtain ⟨oL, es, ep, hoL, hdL, _⟩ := F.ns
    rw [q, hoL] at e; cases e; rw [hdL] at d; cases d
  obtain ⟨ps, hp58, hps⟩ := hT
  have n58 := offL _ _ _ hp58 rfl
  rcases hps with rfl | ⟨c', oc, vs, t, rfl, hoc, hdc, hvc⟩
  · refine ⟨[(58, tabObj #[])], fun q hq => ?_, fun h' _ k => ⟨_, k _ List.mem_cons_self, .inl rfl⟩⟩
    obtain rfl := List.mem_singleton.mp hq
    exact ⟨hp58, n58, h58⟩
  · cases hc : g.get? c' with
    | none =>
      refine ⟨[(58, tabObj #[rawInt 12, rawInt 12, .ref c']), (c', oc)], fun q hq => ?_, fun h' _ k => ⟨_, k _ List.mem_cons_self, .inr ⟨c', oc, vs, t, rfl, k _ (List.mem_cons_of_mem _ List.mem_cons_self), hdc, hvc⟩⟩⟩
      rcases List.mem_cons.mp hq with rfl | hq
      · exact ⟨hp58, n58, h58⟩
      · obtain rfl := List.mem_singleton.mp hq
        exact ⟨hoc, offL _ _ _ hoc hdc, hc⟩
    | some o1 =>
      have := F.keep _ _ hc
      rw [hoc] at this; cases this
      refine ⟨[(58, tabObj #[rawInt 12, rawInt 12, .ref c'])], fun q hq => ?_, fun h' kg k => ⟨_, k _ List.mem_cons_self, .inr ⟨c', oc, vs, t, rfl, kg _ _ hc, hdc, hvc⟩⟩⟩
      obtain rfl := List.mem_singleton.mp hq
      exact ⟨hp58, n58, h58⟩
theorem tab_tit {h h' : Heap} {J tp : Addr} {i : Nat} (hJ : h.IsTupleIter J tp i) (k : ∀ b o, b ≠ J → h.get? b = some o → h'.get? b = some o) (hT : TabN h) : TabN h' := by
  have off : ∀ b o v, h.get? b = some o → o.data = .fields v → (∀ a, v[0]? ≠ some (.ref a)) ∨ (∃ q t, v[1]? = some (.str q t)) → b ≠ J := fun b o v e d hv hb => by
    obtain ⟨o', ho', hc', hd'⟩ := hJ
    rw [← hb, e] at ho'; cases ho'
    rw [d] at hd'; cases hd'
    rcases hv with hv | ⟨q, t, hv⟩
    · exact hv tp rfl
    · cases hv
  refine tab_mono hT (fun ps e => ?_) fun c oc vs t e d v => ⟨oc, k _ _ (off _ _ _ e d (.inr ⟨_, _, v⟩)) e, d⟩
  obtain ⟨ps', hp, hps⟩ := hT
  rw [e] at hp; cases hp
  refine k _ _ (off _ _ _ e rfl (.inl fun a => ?_)) e
  rcases hps with rfl | ⟨c', oc, vs, t, rfl, _⟩ <;> simp [rawInt]

/-- the state between two turns of `_law_right` -/
def RInv (Bl : Heap → Prop) (fs : List Addr) (s : Shared) (g : Heap) (L' tp : Addr) (its : Array Value) (x y : Value) (o u : Int) (t3 t4 : Tok) (J : Addr) (i : Nat) (s' : Shared) : Prop :=
  s'.drawn = s.drawn ∧ s'.os = s.os ∧ GBare s.gens s'.gens ∧ TabN s'.heap ∧ s'.heap.IsTupleIter J tp i ∧ s'.heap.IsTuple tp its ∧ ∃ g1 m, KtsTurn fs g g1 ∧ Bl g1 ∧ Fr g1 L' s'.heap m ∧ m "data" = some x ∧ m "weights" = some y ∧ m "over" = some (.int o t3) ∧ m "under" = some (.int u t4) ∧
    g1.get? J = none ∧ J ≠ L' ∧ g1.get? tp = none ∧ tp ≠ L'
theorem pin4 {m : Str → Option Value} {a b c d : Str} {x y z w : Value} (h1 : m a = some x) (h2 : m b = some y) (h3 : m c = some z) (h4 : m d = some w) : m = fun q => if q = a then some x else if q = b then some y else if q = c then some z else if q = d then some w else m q := by
  funext q
  by_cases ha : q = a
  · rw [if_pos ha, ha, h1]
  · rw [if_neg ha]
    by_cases hb : q = b
    · rw [if_pos hb, hb, h2]
    · rw [if_neg hb]
      by_cases hc : q = c
      · rw [if_pos hc, hc, h3]
      · rw [if_neg hc]
        by_cases hd : q = d
        · rw [if_pos hd, hd, h4]
        · rw [if_neg hd]

theorem news_app {g h : Heap} {L : Addr} {a b : List (Addr × Obj)} (A : News g L h a) (B : News g L h b) : News g L h (a ++ b) := fun q hq => (List.mem_append.mp hq).elim (A q) (B q)
theorem off58 {h : Heap} {q : Addr × Obj} (hT : TabN h) (e : h.get? q.1 = some q.2) (hc : q.2.cls ≠ .none) : q.1 ≠ 58 := fun z => by
  obtain ⟨ps, hp, _⟩ := hT
  rw [z, hp] at e
  have := Option.some.inj e
  rw [← this] at hc
  exact hc rfl

theorem ne_words {prog : Program} {w : World} {A : Around} {E : Value → Shared → Prop} {s : Shared} {l b : Addr} {x y : Str} {t1 t2 t3 t4 : Tok} {Q : Value → Shared → Prop} (hl : s.heap.IsList l #[.str x t1, .str y t2]) (hb : s.heap.IsList b #[.str x t3, .str y t4]) (hu : A.units < cLine)
    (h : Q (.bool false) s) : wpAny (model prog w) A (compareOp .NotEq (.ref l) (.ref b)) Q E s := ne_two hl hb hu (eq_str _ _ _) (eq_str _ _ _) h
end Mine
end
theorem Mine.anewRw : True := by
  w_top off
  exact trivial
section
open PySem PySem.W PyProof.Rows PySem.Calls
set_option Elab.async false
set_option maxRecDepth 100000
set_option maxHeartbeats 8000000
set_option linter.unusedVariables false
namespace Mine

/-- what the law asks of a call with weights -/
def AskW (vs ws : List Value) (num : Nm) (ys : List Nm) (o u : Int) : Prop :=
  vs.length ≠ ws.length ∨ (vs.length = ws.length ∧ u = 0 ∧ Float64.isZero (fsumP (ys.map Nm.real)) = true) ∨
  (vs.length = ws.length ∧ u ≠ 0 ∧ Float64.isZero (fsumP (ys.map Nm.real)) = false ∧ NearB (Float64.div num.real (fsumP (ys.map Nm.real))) o u)

theorem right_w {w : World} {p : Program} {loose : List Str} {mean : ExcName → Option Value} {mg mb : Str → Option Value} {dp un : Nat} {gd : Option (List Code)} {cn : Str} {cs : Scope} {L a : Addr} {ccd : Value} {cl : List (Str × Addr)} {outer : List Env} {base : Heap} {s : Shared} {Q E : Value → Shared → Prop}
   (K0 : Below (ktrTop dp un gd cn cs L a ccd cl outer) base (envX cn cs L a ccd cl :: outer) s.heap) (hmb : ∀ b ∈ [58], base.get? b = none ∧ b ∉ frs (envX cn cs L a ccd cl :: outer)) (X : (hd2.heap_39 w.params).In base) (T : Top p loose mean mg mb base)
   (hT : TabN s.heap) {x y : Addr} {vs ws : List Value} {ys : List Nm} {num : Nm} (hx : s.heap.IsList x vs.toArray) (hy : s.heap.IsList y ws.toArray)
   (hS : SumP PySem.Challenge.rw_kp0013_02.row.prog w vs ws num) (hnum : num.fits) (hN : NmsAre ws ys) (hfit : ∀ a ∈ ys, a.fits) (hlen : ys.length < sizeLine) (hvl : vs.length ≤ sizeLine) (hv1 : vs.length ≤ 1000) (hw1 : ws.length ≤ 1000) (hok : fsumOk [] (ys.map Nm.real))
   {o u : Int} {t3 t4 : Tok} (H : AskW vs ws num ys o u)
   (hroom : dp + 20 < recursionLimit) (hun : un + 40 < cLine)
   (res : ∀ s', Chg (frs (envX cn cs L a ccd cl :: outer)) [58] s.heap s'.heap → TabN s'.heap → GBare s.gens s'.gens → s'.drawn = s.drawn → s'.os = s.os → Q (.bool true) s') :
   wpAny (model PySem.Challenge.rw_kp0013_02.row.prog w) (ktrTop dp un gd cn cs L a ccd cl outer) (call (.ref 84) [.ref x, .ref y, .int o t3, .int u t4]) Q E s := by
  have X0 := X
  revert X; k_fill; intro X
  refine wpAny_call ?_
  refine' enter_plain2 (mods := [58]) (binds := [("data", .ref x), ("weights", .ref y), ("over", .int o t3), ("under", .int u t4)]) K0 hmb X T ?ho ?hcd ?hroom ?hbind ?hloc ?_ ?hcell ?hco ?hgen ?hk
  case ho => k_is
  case hcd => k_is
  case hroom => ktr_room
  case hbind => exact BindsTo.of_eq rfl
  case hloc => intro y hy; simp only [List.mem_cons, List.not_mem_nil, or_false] at hy; rcases hy with rfl | rfl | rfl | rfl <;> exact rfl
  case hcell => decide
  case hco => exact rfl
  case hgen => exact rfl
  case hk => exact rfl
  intro g L' h₁ F B Xg Tg Kp hmg hkeep hL'
  (try dsimp only)
  refine hide_post fun K0 EE hK0 hE0 => ?_
  have hT1 : TabN h₁ := tab_mono hT (fun ps e => hkeep _ _ e) fun c oc vs t e d _ => ⟨oc, hkeep _ _ e, d⟩
  have h58L : 58 < L' := by
    obtain ⟨ps, hp, _⟩ := hT
    rw [hL']; exact Heap.lt_size hp
  have xn : x ≠ 58 := list_not_tab hT hx
  have yn : y ≠ 58 := list_not_tab hT hy
  have gx : g.IsList x vs.toArray := hx.at fun o e => Kp _ _ (by simpa using xn) e
  have gy : g.IsList y ws.toArray := hy.at fun o e => Kp _ _ (by simpa using yn) e
  have hg58 : g.get? 58 = none := hmg 58 (by first | ((repeat (first | exact List.mem_cons_self | apply List.mem_cons_of_mem)); done) | simp)
  have n58 : 58 ∉ L' :: frs (envX cn cs L a ccd cl :: outer) := fun q => by
    rcases List.mem_cons.mp q with q | q
    · exact Nat.ne_of_lt h58L q
    · exact (hmb 58 (by first | ((repeat (first | exact List.mem_cons_self | apply List.mem_cons_of_mem)); done) | simp)).2 q
  obtain ⟨more, N, htm⟩ := tab_more F hg58 hT1
  (repeat' ((fail_if_success (with_reducible first | show wpAny _ _ (call (Value.ref 77) _) _ _ _ | show wpAny _ _ (call (Value.ref 70) _) _ _ _ | show wpAny _ _ (call (Value.builtin "len") _) _ _ _ | show wpAny _ _ (exec (Stmt.For _ _ _ _ _) _) _ _ _ | show wpAny _ _ (compareOp CmpOp.NotEq (Value.ref _) (Value.ref _)) _ _ _)); first | (exfalso; (first | lia | omega)) | (k_unfold; (try dsimp only)) | walk1 | (dsimp only; walk1) | (leave1; walk_say "STEP leave1"; try dsimp only)))
  refine for_tup rfl ?_
  (repeat' ((fail_if_success (with_reducible first | show ∃ _, _)); first | (k_unfold; (try dsimp only)) | walk1 | (dsimp only; walk1) | (leave1; walk_say "STEP leave1"; try dsimp only)))
  rename Fr _ _ _ _ => F
  rename News _ _ _ _ => N
  rename_i tp h10 l14
  refine ⟨tp, _, rfl, ⟨_, (N (tp, _) List.mem_cons_self).1, rfl, _, rfl⟩, ?_⟩
  intro J h11 hJ k11 hJit hJt
  dsimp only at hJ k11 hJit hJt
  have hIts : ∀ (j : Nat) vv, (#[Value.bool false, Value.bool true] : Array Value)[j]? = some vv → ∃ b, vv = .bool b := by
    intro j vv h
    match j with
    | 0 => exact ⟨_, (Option.some.inj h).symm⟩
    | 1 => exact ⟨_, (Option.some.inj h).symm⟩
    | j + 2 => simp at h
  generalize (#[Value.bool false, Value.bool true] : Array Value) = its at *
  have hT10 : TabN h10 := htm _ F.keep fun q hq => (N q (List.mem_cons_of_mem _ hq)).1
  have hT11 : TabN h11 := tab_mono hT10 (fun ps e => k11 _ _ e) fun c oc vs t e d _ => ⟨oc, k11 _ _ e, d⟩
  obtain ⟨hJL, hJg⟩ : J ≠ L' ∧ g.get? J = none := ⟨fun q => Nat.lt_irrefl _ (Nat.lt_of_lt_of_le F.ns.lt (q ▸ hJ)), Heap.get?_none_of_le (Nat.le_trans F.above (Nat.le_trans (Nat.le_of_lt F.ns.lt) hJ))⟩
  have ntp := N (tp, _) List.mem_cons_self
  refine ⟨RInv (Below (ktrTop dp un gd cn cs L a ccd cl outer) base (envX cn cs L a ccd cl :: outer)) (frs (envX cn cs L a ccd cl :: outer)) s g L' tp its (.ref x) (.ref y) o u t3 t4 J, ?start, fun i s' h => ⟨h.2.2.2.2.1, h.2.2.2.2.2.1⟩, ?turn, ?done⟩
  case start => exact ⟨rfl, rfl, fun z => z, hT11, hJit, hJt, g, _, KtsTurn.refl, B, frKeep F k11, rfl, rfl, rfl, rfl, hJg, hJL, ntp.2.2, ntp.2.1⟩
  case done =>
    clear F N k11 hJit hJt hT10 hT11 hJL hJg ntp
    intro s' h' tk' hInv hk'
    obtain ⟨dr, os, gb, hT5, hit, htp, g1, m, TT, B1, F, m1, m2, m3, m4, j1, j2, j3, j4⟩ := hInv
    obtain ⟨s'h, s'g, s'd, s't, s'o⟩ := s'
    dsimp only at *
    subst dr os
    have F1 : Fr g1 L' h' m := frBut (P := [J]) F (fun b o hb e => hk' b o (by simpa using hb) e) (by simpa using Ne.symm j2) (fun b hb => by rw [List.mem_singleton.mp hb]; exact j1)
    have hT6 := tab_tit hit hk' hT5
    obtain ⟨more, N, htm⟩ := tab_more F1 (TT.none_ _ hg58) hT6
    clear F
    (repeat' ((fail_if_success (with_reducible first | show wpAny _ _ (call (Value.ref 77) _) _ _ _ | show wpAny _ _ (call (Value.ref 70) _) _ _ _ | show wpAny _ _ (call (Value.builtin "len") _) _ _ _ | show wpAny _ _ (exec (Stmt.For _ _ _ _ _) _) _ _ _ | show wpAny _ _ (compareOp CmpOp.NotEq (Value.ref _) (Value.ref _)) _ _ _)); first | (exfalso; (first | lia | omega)) | (k_unfold; (try dsimp only)) | walk1 | (dsimp only; walk1) | (leave1; walk_say "STEP leave1"; try dsimp only)))
    rename Fr _ _ _ _ => F
    refine hK0 _ _ (res _ (((Chg.of_keeps_but fun b o e m => Kp b o m e).trans (turn_chg TT)).trans (Chg.of_keeps F.keep)) hT6 gb rfl rfl)
  case turn =>
    clear F N k11 hJit hJt hT10 hT11 hJL hJg ntp
    intro j vv s' h' tk' E' K hKn hj hInv hit' htp' hk'
    obtain ⟨once, rfl⟩ := hIts j vv hj
    obtain ⟨dr, os, gb, hT5, hit, htp, g1, m, TT, B1, F, m1, m2, m3, m4, j1, j2, j3, j4⟩ := hInv
    obtain ⟨s'h, s'g, s'd, s't, s'o⟩ := s'
    dsimp only at *
    subst dr os
    have F1 : Fr g1 L' h' m := frBut (P := [J]) F (fun b o hb e => hk' b o (by simpa using hb) e) (by simpa using Ne.symm j2) (fun b hb => by rw [List.mem_singleton.mp hb]; exact j1)
    have hT6 := tab_tit hit hk' hT5
    have hg1 := TT.none_ _ hg58
    obtain ⟨more, N1, htm⟩ := tab_more F1 hg1 hT6
    obtain ⟨oJ, hoJ, hcJ, hdJ⟩ := id hit'
    obtain ⟨ot, hot, htc, nt, hdt⟩ := id htp'
    replace N1 : News g1 L' h' ((J, oJ) :: (tp, ot) :: more) := newsAdd (newsAdd N1 hot j4 j3) hoJ j2 j1
    rw [pin4 m1 m2 m3 m4] at F1
    have gx1 := list_turn TT gx
    have gy1 := list_turn TT gy
    have Xg1 := X.keeps B1.stays
    have Tg1 := T.keeps B1.stays
    clear F hk' hit htp hT5 Xg Tg
    have lx : h'.IsList x vs.toArray := gx1.at fun o e => F1.keep _ _ e
    have ly : h'.IsList y ws.toArray := gy1.at fun o e => F1.keep _ _ e
    have wl : ws.toArray.size ≤ sizeLine := by rw [List.size_toArray, hN.1]; exact Nat.le_of_lt hlen
    (repeat' ((fail_if_success (with_reducible first | show wpAny _ _ (call (Value.ref 77) _) _ _ _ | show wpAny _ _ (call (Value.ref 70) _) _ _ _ | show wpAny _ _ (call (Value.builtin "len") _) _ _ _ | show wpAny _ _ (exec (Stmt.For _ _ _ _ _) _) _ _ _ | show wpAny _ _ (compareOp CmpOp.NotEq (Value.ref _) (Value.ref _)) _ _ _)); first | (exfalso; (first | lia | omega)) | (k_unfold; (try dsimp only)) | walk1 | (dsimp only; walk1) | (leave1; walk_say "STEP leave1"; try dsimp only)))
    rename Fr _ _ _ _ => F
    rename News _ _ _ _ => N
    rename_i D1 c1 hq1 l1a D2 c2 hq2 l1b K9 hq3 l1c h5
    have hT7 : TabN h5 := htm _ F.keep fun q hq => (N q (by first | ((repeat (first | exact hq | exact List.mem_cons_self | apply List.mem_cons_of_mem)); done) | simp [hq])).1
    have Ns : News g1 L' h5 [(K9, W.listOf #[Value.ref D1, Value.ref D2] 0), (D2, W.listOf ws.toArray c2), (D1, W.listOf vs.toArray c1), (J, oJ), (tp, ot)] := newsSub N (by
      intro q hq
      simp only [List.mem_cons, List.not_mem_nil, or_false] at hq
      rcases hq with rfl | rfl | rfl | rfl | rfl <;> simp)
    have Ncl : ∀ q ∈ [(K9, W.listOf #[Value.ref D1, Value.ref D2] 0), (D2, W.listOf ws.toArray c2), (D1, W.listOf vs.toArray c1), (J, oJ), (tp, ot)], q.2.cls ≠ .none := by
      intro q hq
      simp only [List.mem_cons, List.not_mem_nil, or_false] at hq
      rcases hq with rfl | rfl | rfl | rfl | rfl
      · nofun
      · nofun
      · nofun
      · show oJ.cls ≠ _; rw [hcJ]; nofun
      · show ot.cls ≠ _; rw [htc]; nofun
    clear N hT6 htm l1a l1b l1c lx ly
    refine told_w (pushX B1 F rfl rfl) ?hmc X0 T hT7 (gx1.at fun o e => F.keep _ _ e) (gy1.at fun o e => F.keep _ _ e) hS hnum hN hfit hlen hok ?ro ?ru ?res
    case hmc =>
      intro b hb
      rw [List.mem_singleton.mp hb]
      exact ⟨(hmb 58 (by first | ((repeat (first | exact List.mem_cons_self | apply List.mem_cons_of_mem)); done) | simp)).1, n58⟩
    case ro => exact (show dp + 1 + 12 < recursionLimit by (first | lia | omega))
    case ru => exact (show un + 3 + 12 < cLine by (first | lia | omega))
    intro s9 v C hT9 gb9 d9 o9 TV
    obtain ⟨h9, g9, dd9, tk9, os9⟩ := s9
    dsimp only at C hT9 gb9 d9 o9 TV
    subst d9 o9
    obtain ⟨g2, TT2, F2, B2⟩ := ground_turn B1 F C (fun b hb => by rw [List.mem_singleton.mp hb]; exact hg1) (fun q => Nat.ne_of_gt h58L (List.mem_singleton.mp q))
    have N2 := news_turn TT2 C Ns fun q hq => ⟨fun hm => off58 hT7 (Ns q hq).1 (Ncl q hq) (List.mem_singleton.mp hm), news_off_frames B1 Ns q hq⟩
    have hg2 := TT2.none_ _ hg1
    have gx2 := list_turn TT2 gx1
    have gy2 := list_turn TT2 gy1
    have Xg2 := X.keeps B2.stays
    have Tg2 := T.keeps B2.stays
    obtain ⟨more2, Nm, htm2⟩ := tab_more F2 hg2 hT9
    replace N2 := news_app N2 Nm
    rw [List.cons_append, List.cons_append, List.cons_append, List.cons_append, List.cons_append, List.nil_append] at N2
    have gbA : GBare s.gens g9 := fun z => gb9 (gb z)
    have fr5 : ∀ l, h5.get? l = none → l ≠ L' ∧ g2.get? l = none := fun l e => ⟨(fresh_in F e).1, TT2.none_ _ (fresh_in F e).2⟩
    clear Nm F Ns C B1 Xg1 Tg1 gx1 gy1 hT7 gb gb9
    rcases H with h1 | ⟨h1, h2, h3⟩ | ⟨h1, h2, h3, h4⟩
    · unfold ocW at TV
      rw [if_pos h1] at TV
      obtain ⟨l, ta, tb, rfl, ⟨ol, hol, hcl, nl, hdl⟩, hln⟩ := TV
      replace N2 := newsAdd N2 hol (fr5 l hln).1 (fr5 l hln).2
      (repeat' ((fail_if_success (with_reducible first | show wpAny _ _ (call (Value.ref 77) _) _ _ _ | show wpAny _ _ (call (Value.ref 70) _) _ _ _ | show wpAny _ _ (call (Value.builtin "len") _) _ _ _ | show wpAny _ _ (exec (Stmt.For _ _ _ _ _) _) _ _ _ | show wpAny _ _ (compareOp CmpOp.NotEq (Value.ref _) (Value.ref _)) _ _ _)); first | (exfalso; (first | lia | omega)) | (k_unfold; (try dsimp only)) | walk1 | (dsimp only; walk1) | (leave1; walk_say "STEP leave1"; try dsimp only)))
      rename Fr _ _ _ _ => F
      rename News _ _ _ _ => N
      refine ne_two (x := .ref x) (y := .ref y) (x' := .ref D1) (y' := .ref D2) ?e1x1 ?e2x1 ?e3x1 ?e4x1 ?e5x1 ?_
      case e1x1 => exact ⟨_, (N _ List.mem_cons_self).1, rfl, _, rfl⟩
      case e2x1 => exact ⟨_, (N (K9, W.listOf #[Value.ref D1, Value.ref D2] 0) (by first | ((repeat (first | exact List.mem_cons_self | apply List.mem_cons_of_mem)); done) | simp)).1, rfl, _, rfl⟩
      case e3x1 => exact (show un + 3 < cLine by (first | lia | omega))
      case e4x1 => exact eq_copy (gx2.at fun o e => F.keep _ _ e) ⟨_, (N (D1, W.listOf vs.toArray c1) (by first | ((repeat (first | exact List.mem_cons_self | apply List.mem_cons_of_mem)); done) | simp)).1, rfl, _, rfl⟩ (show un + 3 + 1 < cLine by (first | lia | omega))
      case e5x1 => exact eq_copy (gy2.at fun o e => F.keep _ _ e) ⟨_, (N (D2, W.listOf ws.toArray c2) (by first | ((repeat (first | exact List.mem_cons_self | apply List.mem_cons_of_mem)); done) | simp)).1, rfl, _, rfl⟩ (show un + 3 + 1 < cLine by (first | lia | omega))
      (repeat' ((fail_if_success (with_reducible first | show wpAny _ _ (call (Value.ref 77) _) _ _ _ | show wpAny _ _ (call (Value.ref 70) _) _ _ _ | show wpAny _ _ (call (Value.builtin "len") _) _ _ _ | show wpAny _ _ (exec (Stmt.For _ _ _ _ _) _) _ _ _ | show wpAny _ _ (compareOp CmpOp.NotEq (Value.ref _) (Value.ref _)) _ _ _)); first | (exfalso; (first | lia | omega)) | (k_unfold; (try dsimp only)) | walk1 | (dsimp only; walk1) | (leave1; walk_say "STEP leave1"; try dsimp only)))
      rename Fr _ _ _ _ => F
      refine call_len_list (gx2.at fun _ e => F.keep _ _ e) (by simp; (first | lia | omega)) ?_
      (repeat' ((fail_if_success (with_reducible first | show wpAny _ _ (call (Value.ref 77) _) _ _ _ | show wpAny _ _ (call (Value.ref 70) _) _ _ _ | show wpAny _ _ (call (Value.builtin "len") _) _ _ _ | show wpAny _ _ (exec (Stmt.For _ _ _ _ _) _) _ _ _ | show wpAny _ _ (compareOp CmpOp.NotEq (Value.ref _) (Value.ref _)) _ _ _)); first | (exfalso; (first | lia | omega)) | (k_unfold; (try dsimp only)) | walk1 | (dsimp only; walk1) | (leave1; walk_say "STEP leave1"; try dsimp only)))
      refine call_len_list (gy2.at fun _ e => F.keep _ _ e) (by simp; (first | lia | omega)) ?_
      simp only [List.size_toArray]
      (repeat' ((fail_if_success (with_reducible first | show wpAny _ _ (call (Value.ref 77) _) _ _ _ | show wpAny _ _ (call (Value.ref 70) _) _ _ _ | show wpAny _ _ (call (Value.builtin "len") _) _ _ _ | show wpAny _ _ (exec (Stmt.For _ _ _ _ _) _) _ _ _ | show wpAny _ _ (compareOp CmpOp.NotEq (Value.ref _) (Value.ref _)) _ _ _)); first | (exfalso; (first | lia | omega)) | (k_unfold; (try dsimp only)) | walk1 | (dsimp only; walk1) | (leave1; walk_say "STEP leave1"; try dsimp only)))
      rename Fr _ _ _ _ => F
      rename News _ _ _ _ => N
      refine' ne_words ?w1a ?w1b ?w1c ?_
      case w1a => exact ⟨_, (N (l, ol) (by first | ((repeat (first | exact List.mem_cons_self | apply List.mem_cons_of_mem)); done) | simp)).1, hcl, _, hdl⟩
      case w1b => exact ⟨_, (N _ List.mem_cons_self).1, rfl, _, rfl⟩
      case w1c => exact (show un + 3 < cLine by (first | lia | omega))
      (repeat' ((fail_if_success (with_reducible first | show wpAny _ _ (call (Value.ref 77) _) _ _ _ | show wpAny _ _ (call (Value.ref 70) _) _ _ _ | show wpAny _ _ (call (Value.builtin "len") _) _ _ _ | show wpAny _ _ (exec (Stmt.For _ _ _ _ _) _) _ _ _ | show wpAny _ _ (compareOp CmpOp.NotEq (Value.ref _) (Value.ref _)) _ _ _)); first | (exfalso; (first | lia | omega)) | (k_unfold; (try dsimp only)) | walk1 | (dsimp only; walk1) | (leave1; walk_say "STEP leave1"; try dsimp only)))
      rename Fr _ _ _ _ => F
      rename News _ _ _ _ => N
      have nJ := N (J, oJ) (by first | ((repeat (first | exact List.mem_cons_self | apply List.mem_cons_of_mem)); done) | simp)
      have nt := N (tp, ot) (by first | ((repeat (first | exact List.mem_cons_self | apply List.mem_cons_of_mem)); done) | simp)
      exact hKn _ ⟨rfl, rfl, gbA, htm2 _ F.keep fun q hq => (N q (by first | ((repeat (first | exact hq | exact List.mem_cons_self | apply List.mem_cons_of_mem)); done) | simp [hq])).1, ⟨_, nJ.1, hcJ, hdJ⟩, ⟨_, nt.1, htc, _, hdt⟩, g2, _, TT.trans TT2, B2, F, rfl, rfl, rfl, rfl, nJ.2.2, nJ.2.1, nt.2.2, nt.2.1⟩
    · unfold ocW at TV
      rw [if_neg (by simp [h1]), if_pos h3] at TV
      obtain ⟨l, ta, tb, rfl, ⟨ol, hol, hcl, nl, hdl⟩, hln⟩ := TV
      replace N2 := newsAdd N2 hol (fr5 l hln).1 (fr5 l hln).2
      (repeat' ((fail_if_success (with_reducible first | show wpAny _ _ (call (Value.ref 77) _) _ _ _ | show wpAny _ _ (call (Value.ref 70) _) _ _ _ | show wpAny _ _ (call (Value.builtin "len") _) _ _ _ | show wpAny _ _ (exec (Stmt.For _ _ _ _ _) _) _ _ _ | show wpAny _ _ (compareOp CmpOp.NotEq (Value.ref _) (Value.ref _)) _ _ _)); first | (exfalso; (first | lia | omega)) | (k_unfold; (try dsimp only)) | walk1 | (dsimp only; walk1) | (leave1; walk_say "STEP leave1"; try dsimp only)))
      rename Fr _ _ _ _ => F
      rename News _ _ _ _ => N
      refine ne_two (x := .ref x) (y := .ref y) (x' := .ref D1) (y' := .ref D2) ?e1x3 ?e2x3 ?e3x3 ?e4x3 ?e5x3 ?_
      case e1x3 => exact ⟨_, (N _ List.mem_cons_self).1, rfl, _, rfl⟩
      case e2x3 => exact ⟨_, (N (K9, W.listOf #[Value.ref D1, Value.ref D2] 0) (by first | ((repeat (first | exact List.mem_cons_self | apply List.mem_cons_of_mem)); done) | simp)).1, rfl, _, rfl⟩
      case e3x3 => exact (show un + 3 < cLine by (first | lia | omega))
      case e4x3 => exact eq_copy (gx2.at fun o e => F.keep _ _ e) ⟨_, (N (D1, W.listOf vs.toArray c1) (by first | ((repeat (first | exact List.mem_cons_self | apply List.mem_cons_of_mem)); done) | simp)).1, rfl, _, rfl⟩ (show un + 3 + 1 < cLine by (first | lia | omega))
      case e5x3 => exact eq_copy (gy2.at fun o e => F.keep _ _ e) ⟨_, (N (D2, W.listOf ws.toArray c2) (by first | ((repeat (first | exact List.mem_cons_self | apply List.mem_cons_of_mem)); done) | simp)).1, rfl, _, rfl⟩ (show un + 3 + 1 < cLine by (first | lia | omega))
      (repeat' ((fail_if_success (with_reducible first | show wpAny _ _ (call (Value.ref 77) _) _ _ _ | show wpAny _ _ (call (Value.ref 70) _) _ _ _ | show wpAny _ _ (call (Value.builtin "len") _) _ _ _ | show wpAny _ _ (exec (Stmt.For _ _ _ _ _) _) _ _ _ | show wpAny _ _ (compareOp CmpOp.NotEq (Value.ref _) (Value.ref _)) _ _ _)); first | (exfalso; (first | lia | omega)) | (k_unfold; (try dsimp only)) | walk1 | (dsimp only; walk1) | (leave1; walk_say "STEP leave1"; try dsimp only)))
      rename Fr _ _ _ _ => F
      refine call_len_list (gx2.at fun _ e => F.keep _ _ e) (by simp; (first | lia | omega)) ?_
      (repeat' ((fail_if_success (with_reducible first | show wpAny _ _ (call (Value.ref 77) _) _ _ _ | show wpAny _ _ (call (Value.ref 70) _) _ _ _ | show wpAny _ _ (call (Value.builtin "len") _) _ _ _ | show wpAny _ _ (exec (Stmt.For _ _ _ _ _) _) _ _ _ | show wpAny _ _ (compareOp CmpOp.NotEq (Value.ref _) (Value.ref _)) _ _ _)); first | (exfalso; (first | lia | omega)) | (k_unfold; (try dsimp only)) | walk1 | (dsimp only; walk1) | (leave1; walk_say "STEP leave1"; try dsimp only)))
      refine call_len_list (gy2.at fun _ e => F.keep _ _ e) (by simp; (first | lia | omega)) ?_
      simp only [List.size_toArray]
      (repeat' ((fail_if_success (with_reducible first | show wpAny _ _ (call (Value.ref 77) _) _ _ _ | show wpAny _ _ (call (Value.ref 70) _) _ _ _ | show wpAny _ _ (call (Value.builtin "len") _) _ _ _ | show wpAny _ _ (exec (Stmt.For _ _ _ _ _) _) _ _ _ | show wpAny _ _ (compareOp CmpOp.NotEq (Value.ref _) (Value.ref _)) _ _ _)); first | (exfalso; (first | lia | omega)) | (k_unfold; (try dsimp only)) | walk1 | (dsimp only; walk1) | (leave1; walk_say "STEP leave1"; try dsimp only)))
      rename Fr _ _ _ _ => F
      rename News _ _ _ _ => N
      refine' ne_words ?w2a ?w2b ?w2c ?_
      case w2a => exact ⟨_, (N (l, ol) (by first | ((repeat (first | exact List.mem_cons_self | apply List.mem_cons_of_mem)); done) | simp)).1, hcl, _, hdl⟩
      case w2b => exact ⟨_, (N _ List.mem_cons_self).1, rfl, _, rfl⟩
      case w2c => exact (show un + 3 < cLine by (first | lia | omega))
      (repeat' ((fail_if_success (with_reducible first | show wpAny _ _ (call (Value.ref 77) _) _ _ _ | show wpAny _ _ (call (Value.ref 70) _) _ _ _ | show wpAny _ _ (call (Value.builtin "len") _) _ _ _ | show wpAny _ _ (exec (Stmt.For _ _ _ _ _) _) _ _ _ | show wpAny _ _ (compareOp CmpOp.NotEq (Value.ref _) (Value.ref _)) _ _ _)); first | (exfalso; (first | lia | omega)) | (k_unfold; (try dsimp only)) | walk1 | (dsimp only; walk1) | (leave1; walk_say "STEP leave1"; try dsimp only)))
      rename Fr _ _ _ _ => F
      rename News _ _ _ _ => N
      have nJ := N (J, oJ) (by first | ((repeat (first | exact List.mem_cons_self | apply List.mem_cons_of_mem)); done) | simp)
      have nt := N (tp, ot) (by first | ((repeat (first | exact List.mem_cons_self | apply List.mem_cons_of_mem)); done) | simp)
      exact hKn _ ⟨rfl, rfl, gbA, htm2 _ F.keep fun q hq => (N q (by first | ((repeat (first | exact hq | exact List.mem_cons_self | apply List.mem_cons_of_mem)); done) | simp [hq])).1, ⟨_, nJ.1, hcJ, hdJ⟩, ⟨_, nt.1, htc, _, hdt⟩, g2, _, TT.trans TT2, B2, F, rfl, rfl, rfl, rfl, nJ.2.2, nJ.2.1, nt.2.2, nt.2.1⟩
    · unfold ocW at TV
      rw [if_neg (by simp [h1]), if_neg (by simp [h3])] at TV
      obtain ⟨tf, rfl⟩ := TV
      (repeat' ((fail_if_success (with_reducible first | show wpAny _ _ (call (Value.ref 77) _) _ _ _ | show wpAny _ _ (call (Value.ref 70) _) _ _ _ | show wpAny _ _ (call (Value.builtin "len") _) _ _ _ | show wpAny _ _ (exec (Stmt.For _ _ _ _ _) _) _ _ _ | show wpAny _ _ (compareOp CmpOp.NotEq (Value.ref _) (Value.ref _)) _ _ _)); first | (exfalso; (first | lia | omega)) | (k_unfold; (try dsimp only)) | walk1 | (dsimp only; walk1) | (leave1; walk_say "STEP leave1"; try dsimp only)))
      rename Fr _ _ _ _ => F
      rename News _ _ _ _ => N
      refine ne_two (x := .ref x) (y := .ref y) (x' := .ref D1) (y' := .ref D2) ?e1x5 ?e2x5 ?e3x5 ?e4x5 ?e5x5 ?_
      case e1x5 => exact ⟨_, (N _ List.mem_cons_self).1, rfl, _, rfl⟩
      case e2x5 => exact ⟨_, (N (K9, W.listOf #[Value.ref D1, Value.ref D2] 0) (by first | ((repeat (first | exact List.mem_cons_self | apply List.mem_cons_of_mem)); done) | simp)).1, rfl, _, rfl⟩
      case e3x5 => exact (show un + 3 < cLine by (first | lia | omega))
      case e4x5 => exact eq_copy (gx2.at fun o e => F.keep _ _ e) ⟨_, (N (D1, W.listOf vs.toArray c1) (by first | ((repeat (first | exact List.mem_cons_self | apply List.mem_cons_of_mem)); done) | simp)).1, rfl, _, rfl⟩ (show un + 3 + 1 < cLine by (first | lia | omega))
      case e5x5 => exact eq_copy (gy2.at fun o e => F.keep _ _ e) ⟨_, (N (D2, W.listOf ws.toArray c2) (by first | ((repeat (first | exact List.mem_cons_self | apply List.mem_cons_of_mem)); done) | simp)).1, rfl, _, rfl⟩ (show un + 3 + 1 < cLine by (first | lia | omega))
      (repeat' ((fail_if_success (with_reducible first | show wpAny _ _ (call (Value.ref 77) _) _ _ _ | show wpAny _ _ (call (Value.ref 70) _) _ _ _ | show wpAny _ _ (call (Value.builtin "len") _) _ _ _ | show wpAny _ _ (exec (Stmt.For _ _ _ _ _) _) _ _ _ | show wpAny _ _ (compareOp CmpOp.NotEq (Value.ref _) (Value.ref _)) _ _ _)); first | (exfalso; (first | lia | omega)) | (k_unfold; (try dsimp only)) | walk1 | (dsimp only; walk1) | (leave1; walk_say "STEP leave1"; try dsimp only)))
      rename Fr _ _ _ _ => F
      refine call_len_list (gx2.at fun _ e => F.keep _ _ e) (by simp; (first | lia | omega)) ?_
      (repeat' ((fail_if_success (with_reducible first | show wpAny _ _ (call (Value.ref 77) _) _ _ _ | show wpAny _ _ (call (Value.ref 70) _) _ _ _ | show wpAny _ _ (call (Value.builtin "len") _) _ _ _ | show wpAny _ _ (exec (Stmt.For _ _ _ _ _) _) _ _ _ | show wpAny _ _ (compareOp CmpOp.NotEq (Value.ref _) (Value.ref _)) _ _ _)); first | (exfalso; (first | lia | omega)) | (k_unfold; (try dsimp only)) | walk1 | (dsimp only; walk1) | (leave1; walk_say "STEP leave1"; try dsimp only)))
      refine call_len_list (gy2.at fun _ e => F.keep _ _ e) (by simp; (first | lia | omega)) ?_
      simp only [List.size_toArray]
      (repeat' ((fail_if_success (with_reducible first | show wpAny _ _ (call (Value.ref 77) _) _ _ _ | show wpAny _ _ (call (Value.ref 70) _) _ _ _ | show wpAny _ _ (call (Value.builtin "len") _) _ _ _ | show wpAny _ _ (exec (Stmt.For _ _ _ _ _) _) _ _ _ | show wpAny _ _ (compareOp CmpOp.NotEq (Value.ref _) (Value.ref _)) _ _ _)); first | (exfalso; (first | lia | omega)) | (k_unfold; (try dsimp only)) | walk1 | (dsimp only; walk1) | (leave1; walk_say "STEP leave1"; try dsimp only)))
      rename Fr _ _ _ _ => F
      rename News _ _ _ _ => N
      refine nearest (mods := []) (pushX B2 F rfl rfl) (fun _ h => nomatch h) X0 T h4 ?r1 ?r2 ?r3
      case r1 => exact (show dp + 1 + 12 < recursionLimit by (first | lia | omega))
      case r2 => exact (show un + 3 + 12 < cLine by (first | lia | omega))
      intro s11 k11 g11 d11 o11
      obtain ⟨h11, gn11, dd11, tk11, os11⟩ := s11
      dsimp only at k11 g11 d11 o11
      subst g11 d11 o11
      have F1 := frKeep F fun b o e => k11 b o (by first | ((repeat (first | exact List.mem_cons_self | apply List.mem_cons_of_mem)); done) | simp) e
      have N1 := newsKeep N fun b o e => k11 b o (by first | ((repeat (first | exact List.mem_cons_self | apply List.mem_cons_of_mem)); done) | simp) e
      clear F N
      (repeat' ((fail_if_success (with_reducible first | show wpAny _ _ (call (Value.ref 77) _) _ _ _ | show wpAny _ _ (call (Value.ref 70) _) _ _ _ | show wpAny _ _ (call (Value.builtin "len") _) _ _ _ | show wpAny _ _ (exec (Stmt.For _ _ _ _ _) _) _ _ _ | show wpAny _ _ (compareOp CmpOp.NotEq (Value.ref _) (Value.ref _)) _ _ _)); first | (exfalso; (first | lia | omega)) | (k_unfold; (try dsimp only)) | walk1 | (dsimp only; walk1) | (leave1; walk_say "STEP leave1"; try dsimp only)))
      rename Fr _ _ _ _ => F
      rename News _ _ _ _ => N
      have nJ := N (J, oJ) (by first | ((repeat (first | exact List.mem_cons_self | apply List.mem_cons_of_mem)); done) | simp)
      have nt := N (tp, ot) (by first | ((repeat (first | exact List.mem_cons_self | apply List.mem_cons_of_mem)); done) | simp)
      exact hKn _ ⟨rfl, rfl, gbA, htm2 _ F.keep fun q hq => (N q (by first | ((repeat (first | exact hq | exact List.mem_cons_self | apply List.mem_cons_of_mem)); done) | simp [hq])).1, ⟨_, nJ.1, hcJ, hdJ⟩, ⟨_, nt.1, htc, _, hdt⟩, g2, _, TT.trans TT2, B2, F, rfl, rfl, rfl, rfl, nJ.2.2, nJ.2.1, nt.2.2, nt.2.1⟩
end Mine
end
theorem Mine.anewRn : True := by
  w_top off
  exact trivial
section
open PySem PySem.W PyProof.Rows PySem.Calls
set_option Elab.async false
set_option maxRecDepth 100000
set_option maxHeartbeats 8000000
set_option linter.unusedVariables false
namespace Mine

/-- what the law asks of a call without weights -/
def AskN (vs : List Value) (xs : List Nm) (o u : Int) : Prop :=
  (vs.length = 0 ∧ u = 0) ∨ (vs.length ≠ 0 ∧ u ≠ 0 ∧ NearB (Float64.div (fsumP (xs.map Nm.real)) (Float64.ofInt vs.length)) o u)

theorem right_n {w : World} {p : Program} {loose : List Str} {mean : ExcName → Option Value} {mg mb : Str → Option Value} {dp un : Nat} {gd : Option (List Code)} {cn : Str} {cs : Scope} {L a : Addr} {ccd : Value} {cl : List (Str × Addr)} {outer : List Env} {base : Heap} {s : Shared} {Q E : Value → Shared → Prop}
   (K0 : Below (ktrTop dp un gd cn cs L a ccd cl outer) base (envX cn cs L a ccd cl :: outer) s.heap) (hmb : ∀ b ∈ [58], base.get? b = none ∧ b ∉ frs (envX cn cs L a ccd cl :: outer)) (X : (hd2.heap_39 w.params).In base) (T : Top p loose mean mg mb base)
   (hT : TabN s.heap) (C58 : CodeHd base 62 58) {x : Addr} {vs : List Value} {xs : List Nm} (hx : s.heap.IsList x vs.toArray)
   (hN : NmsAre vs xs) (hfit : ∀ a ∈ xs, a.fits) (hlen : xs.length ≤ 1000) (hok : fsumOk [] (xs.map Nm.real))
   {o u : Int} {t3 t4 : Tok} (H : AskN vs xs o u)
   (hroom : dp + 20 < recursionLimit) (hun : un + 40 < cLine)
   (res : ∀ s', Chg (frs (envX cn cs L a ccd cl :: outer)) [58] s.heap s'.heap → TabN s'.heap → GBare s.gens s'.gens → s'.drawn = s.drawn → s'.os = s.os → Q (.bool true) s') :
   wpAny (model PySem.Challenge.rw_kp0013_02.row.prog w) (ktrTop dp un gd cn cs L a ccd cl outer) (call (.ref 84) [.ref x, .none, .int o t3, .int u t4]) Q E s := by
  have X0 := X
  revert X; k_fill; intro X
  refine wpAny_call ?_
  refine' enter_plain2 (mods := [58]) (binds := [("data", .ref x), ("weights", .none), ("over", .int o t3), ("under", .int u t4)]) K0 hmb X T ?ho ?hcd ?hroom ?hbind ?hloc ?_ ?hcell ?hco ?hgen ?hk
  case ho => k_is
  case hcd => k_is
  case hroom => ktr_room
  case hbind => exact BindsTo.of_eq rfl
  case hloc => intro y hy; simp only [List.mem_cons, List.not_mem_nil, or_false] at hy; rcases hy with rfl | rfl | rfl | rfl <;> exact rfl
  case hcell => decide
  case hco => exact rfl
  case hgen => exact rfl
  case hk => exact rfl
  intro g L' h₁ F B Xg Tg Kp hmg hkeep hL'
  (try dsimp only)
  refine hide_post fun K0 EE hK0 hE0 => ?_
  have hT1 : TabN h₁ := tab_mono hT (fun ps e => hkeep _ _ e) fun c oc vs t e d _ => ⟨oc, hkeep _ _ e, d⟩
  have h58L : 58 < L' := by
    obtain ⟨ps, hp, _⟩ := hT
    rw [hL']; exact Heap.lt_size hp
  have xn : x ≠ 58 := list_not_tab hT hx
  have gx : g.IsList x vs.toArray := hx.at fun o e => Kp _ _ (by simpa using xn) e
  have hg58 : g.get? 58 = none := hmg 58 (by first | ((repeat (first | exact List.mem_cons_self | apply List.mem_cons_of_mem)); done) | simp)
  have n58 : 58 ∉ L' :: frs (envX cn cs L a ccd cl :: outer) := fun q => by
    rcases List.mem_cons.mp q with q | q
    · exact Nat.ne_of_lt h58L q
    · exact (hmb 58 (by first | ((repeat (first | exact List.mem_cons_self | apply List.mem_cons_of_mem)); done) | simp)).2 q
  obtain ⟨more, N, htm⟩ := tab_more F hg58 hT1
  (repeat' ((fail_if_success (with_reducible first | show wpAny _ _ (call (Value.ref 77) _) _ _ _ | show wpAny _ _ (call (Value.ref 70) _) _ _ _ | show wpAny _ _ (call (Value.builtin "len") _) _ _ _ | show wpAny _ _ (exec (Stmt.For _ _ _ _ _) _) _ _ _ | show wpAny _ _ (compareOp CmpOp.NotEq (Value.ref _) (Value.ref _)) _ _ _)); first | (exfalso; (first | lia | omega)) | (k_unfold; (try dsimp only)) | walk1 | (dsimp only; walk1) | (leave1; walk_say "STEP leave1"; try dsimp only)))
  refine for_tup rfl ?_
  (repeat' ((fail_if_success (with_reducible first | show ∃ _, _)); first | (k_unfold; (try dsimp only)) | walk1 | (dsimp only; walk1) | (leave1; walk_say "STEP leave1"; try dsimp only)))
  rename Fr _ _ _ _ => F
  rename News _ _ _ _ => N
  rename_i tp h10 l14
  refine ⟨tp, _, rfl, ⟨_, (N (tp, _) List.mem_cons_self).1, rfl, _, rfl⟩, ?_⟩
  intro J h11 hJ k11 hJit hJt
  dsimp only at hJ k11 hJit hJt
  have hIts : ∀ (j : Nat) vv, (#[Value.bool false, Value.bool true] : Array Value)[j]? = some vv → ∃ b, vv = .bool b := by
    intro j vv h
    match j with
    | 0 => exact ⟨_, (Option.some.inj h).symm⟩
    | 1 => exact ⟨_, (Option.some.inj h).symm⟩
    | j + 2 => simp at h
  generalize (#[Value.bool false, Value.bool true] : Array Value) = its at *
  have hT10 : TabN h10 := htm _ F.keep fun q hq => (N q (List.mem_cons_of_mem _ hq)).1
  have hT11 : TabN h11 := tab_mono hT10 (fun ps e => k11 _ _ e) fun c oc vs t e d _ => ⟨oc, k11 _ _ e, d⟩
  obtain ⟨hJL, hJg⟩ : J ≠ L' ∧ g.get? J = none := ⟨fun q => Nat.lt_irrefl _ (Nat.lt_of_lt_of_le F.ns.lt (q ▸ hJ)), Heap.get?_none_of_le (Nat.le_trans F.above (Nat.le_trans (Nat.le_of_lt F.ns.lt) hJ))⟩
  have ntp := N (tp, _) List.mem_cons_self
  refine ⟨RInv (Below (ktrTop dp un gd cn cs L a ccd cl outer) base (envX cn cs L a ccd cl :: outer)) (frs (envX cn cs L a ccd cl :: outer)) s g L' tp its (.ref x) .none o u t3 t4 J, ?start, fun i s' h => ⟨h.2.2.2.2.1, h.2.2.2.2.2.1⟩, ?turn, ?done⟩
  case start => exact ⟨rfl, rfl, fun z => z, hT11, hJit, hJt, g, _, KtsTurn.refl, B, frKeep F k11, rfl, rfl, rfl, rfl, hJg, hJL, ntp.2.2, ntp.2.1⟩
  case done =>
    clear F N k11 hJit hJt hT10 hT11 hJL hJg ntp
    intro s' h' tk' hInv hk'
    obtain ⟨dr, os, gb, hT5, hit, htp, g1, m, TT, B1, F, m1, m2, m3, m4, j1, j2, j3, j4⟩ := hInv
    obtain ⟨s'h, s'g, s'd, s't, s'o⟩ := s'
    dsimp only at *
    subst dr os
    have F1 : Fr g1 L' h' m := frBut (P := [J]) F (fun b o hb e => hk' b o (by simpa using hb) e) (by simpa using Ne.symm j2) (fun b hb => by rw [List.mem_singleton.mp hb]; exact j1)
    have hT6 := tab_tit hit hk' hT5
    obtain ⟨more, N, htm⟩ := tab_more F1 (TT.none_ _ hg58) hT6
    clear F
    (repeat' ((fail_if_success (with_reducible first | show wpAny _ _ (call (Value.ref 77) _) _ _ _ | show wpAny _ _ (call (Value.ref 70) _) _ _ _ | show wpAny _ _ (call (Value.builtin "len") _) _ _ _ | show wpAny _ _ (exec (Stmt.For _ _ _ _ _) _) _ _ _ | show wpAny _ _ (compareOp CmpOp.NotEq (Value.ref _) (Value.ref _)) _ _ _)); first | (exfalso; (first | lia | omega)) | (k_unfold; (try dsimp only)) | walk1 | (dsimp only; walk1) | (leave1; walk_say "STEP leave1"; try dsimp only)))
    rename Fr _ _ _ _ => F
    refine hK0 _ _ (res _ (((Chg.of_keeps_but fun b o e m => Kp b o m e).trans (turn_chg TT)).trans (Chg.of_keeps F.keep)) hT6 gb rfl rfl)
  case turn =>
    clear F N k11 hJit hJt hT10 hT11 hJL hJg ntp
    intro j vv s' h' tk' E' K hKn hj hInv hit' htp' hk'
    obtain ⟨once, rfl⟩ := hIts j vv hj
    obtain ⟨dr, os, gb, hT5, hit, htp, g1, m, TT, B1, F, m1, m2, m3, m4, j1, j2, j3, j4⟩ := hInv
    obtain ⟨s'h, s'g, s'd, s't, s'o⟩ := s'
    dsimp only at *
    subst dr os
    have F1 : Fr g1 L' h' m := frBut (P := [J]) F (fun b o hb e => hk' b o (by simpa using hb) e) (by simpa using Ne.symm j2) (fun b hb => by rw [List.mem_singleton.mp hb]; exact j1)
    have hT6 := tab_tit hit hk' hT5
    have hg1 := TT.none_ _ hg58
    obtain ⟨more, N1, htm⟩ := tab_more F1 hg1 hT6
    obtain ⟨oJ, hoJ, hcJ, hdJ⟩ := id hit'
    obtain ⟨ot, hot, htc, nt, hdt⟩ := id htp'
    replace N1 : News g1 L' h' ((J, oJ) :: (tp, ot) :: more) := newsAdd (newsAdd N1 hot j4 j3) hoJ j2 j1
    rw [pin4 m1 m2 m3 m4] at F1
    have gx1 := list_turn TT gx
    have Xg1 := X.keeps B1.stays
    have Tg1 := T.keeps B1.stays
    clear F hk' hit htp hT5 Xg Tg
    have lx : h'.IsList x vs.toArray := gx1.at fun o e => F1.keep _ _ e
    have hv1 : vs.length ≤ 1000 := by rw [hN.1]; exact hlen
    have hvl : vs.toArray.size ≤ sizeLine := by rw [List.size_toArray]; exact Nat.le_trans hv1 (by decide)
    (repeat' ((fail_if_success (with_reducible first | show wpAny _ _ (call (Value.ref 77) _) _ _ _ | show wpAny _ _ (call (Value.ref 70) _) _ _ _ | show wpAny _ _ (call (Value.builtin "len") _) _ _ _ | show wpAny _ _ (exec (Stmt.For _ _ _ _ _) _) _ _ _ | show wpAny _ _ (compareOp CmpOp.NotEq (Value.ref _) (Value.ref _)) _ _ _)); first | (exfalso; (first | lia | omega)) | (k_unfold; (try dsimp only)) | walk1 | (dsimp only; walk1) | (leave1; walk_say "STEP leave1"; try dsimp only)))
    rename Fr _ _ _ _ => F
    rename News _ _ _ _ => N
    rename_i D1 c1 hq1 l1a K9 hq3 l1c h5
    have hT7 : TabN h5 := htm _ F.keep fun q hq => (N q (by first | ((repeat (first | exact hq | exact List.mem_cons_self | apply List.mem_cons_of_mem)); done) | simp [hq])).1
    have Ns : News g1 L' h5 [(K9, W.listOf #[Value.ref D1, Value.none] 0), (D1, W.listOf vs.toArray c1), (J, oJ), (tp, ot)] := newsSub N (by
      intro q hq
      simp only [List.mem_cons, List.not_mem_nil, or_false] at hq
      rcases hq with rfl | rfl | rfl | rfl <;> simp)
    have Ncl : ∀ q ∈ [(K9, W.listOf #[Value.ref D1, Value.none] 0), (D1, W.listOf vs.toArray c1), (J, oJ), (tp, ot)], q.2.cls ≠ .none := by
      intro q hq
      simp only [List.mem_cons, List.not_mem_nil, or_false] at hq
      rcases hq with rfl | rfl | rfl | rfl
      · nofun
      · nofun
      · show oJ.cls ≠ _; rw [hcJ]; nofun
      · show ot.cls ≠ _; rw [htc]; nofun
    clear N hT6 htm l1a l1c lx
    refine told_n (pushX B1 F rfl rfl) ?hmc X0 T hT7 C58 (gx1.at fun o e => F.keep _ _ e) hN hfit hlen hok ?ro ?ru ?res
    case hmc =>
      intro b hb
      rw [List.mem_singleton.mp hb]
      exact ⟨(hmb 58 (by first | ((repeat (first | exact List.mem_cons_self | apply List.mem_cons_of_mem)); done) | simp)).1, n58⟩
    case ro => exact (show dp + 1 + 12 < recursionLimit by (first | lia | omega))
    case ru => exact (show un + 3 + 12 < cLine by (first | lia | omega))
    intro s9 v C hT9 gb9 d9 o9 TV
    obtain ⟨h9, g9, dd9, tk9, os9⟩ := s9
    dsimp only at C hT9 gb9 d9 o9 TV
    subst d9 o9
    obtain ⟨g2, TT2, F2, B2⟩ := ground_turn B1 F C (fun b hb => by rw [List.mem_singleton.mp hb]; exact hg1) (fun q => Nat.ne_of_gt h58L (List.mem_singleton.mp q))
    have N2 := news_turn TT2 C Ns fun q hq => ⟨fun hm => off58 hT7 (Ns q hq).1 (Ncl q hq) (List.mem_singleton.mp hm), news_off_frames B1 Ns q hq⟩
    have hg2 := TT2.none_ _ hg1
    have gx2 := list_turn TT2 gx1
    have Xg2 := X.keeps B2.stays
    have Tg2 := T.keeps B2.stays
    obtain ⟨more2, Nm, htm2⟩ := tab_more F2 hg2 hT9
    replace N2 := news_app N2 Nm
    rw [List.cons_append, List.cons_append, List.cons_append, List.cons_append, List.nil_append] at N2
    have gbA : GBare s.gens g9 := fun z => gb9 (gb z)
    have fr5 : ∀ l, h5.get? l = none → l ≠ L' ∧ g2.get? l = none := fun l e => ⟨(fresh_in F e).1, TT2.none_ _ (fresh_in F e).2⟩
    clear Nm F Ns C B1 Xg1 Tg1 gx1 hT7 gb gb9
    rcases H with ⟨h1, h2⟩ | ⟨h1, h2, h3⟩
    · unfold ocN at TV
      rw [if_pos h1] at TV
      obtain ⟨l, ta, tb, rfl, ⟨ol, hol, hcl, nl, hdl⟩, hln⟩ := TV
      replace N2 := newsAdd N2 hol (fr5 l hln).1 (fr5 l hln).2
      (repeat' ((fail_if_success (with_reducible first | show wpAny _ _ (call (Value.ref 77) _) _ _ _ | show wpAny _ _ (call (Value.ref 70) _) _ _ _ | show wpAny _ _ (call (Value.builtin "len") _) _ _ _ | show wpAny _ _ (exec (Stmt.For _ _ _ _ _) _) _ _ _ | show wpAny _ _ (compareOp CmpOp.NotEq (Value.ref _) (Value.ref _)) _ _ _)); first | (exfalso; (first | lia | omega)) | (k_unfold; (try dsimp only)) | walk1 | (dsimp only; walk1) | (leave1; walk_say "STEP leave1"; try dsimp only)))
      rename Fr _ _ _ _ => F
      rename News _ _ _ _ => N
      refine ne_two (x := .ref x) (y := .none) (x' := .ref D1) (y' := .none) ?e1x1 ?e2x1 ?e3x1 ?e4x1 ?e5x1 ?_
      case e1x1 => exact ⟨_, (N _ List.mem_cons_self).1, rfl, _, rfl⟩
      case e2x1 => exact ⟨_, (N (K9, W.listOf #[Value.ref D1, Value.none] 0) (by first | ((repeat (first | exact List.mem_cons_self | apply List.mem_cons_of_mem)); done) | simp)).1, rfl, _, rfl⟩
      case e3x1 => exact (show un + 3 < cLine by (first | lia | omega))
      case e4x1 => exact eq_copy (gx2.at fun o e => F.keep _ _ e) ⟨_, (N (D1, W.listOf vs.toArray c1) (by first | ((repeat (first | exact List.mem_cons_self | apply List.mem_cons_of_mem)); done) | simp)).1, rfl, _, rfl⟩ (show un + 3 + 1 < cLine by (first | lia | omega))
      case e5x1 => exact SeqAt.EqAt.same _
      (repeat' ((fail_if_success (with_reducible first | show wpAny _ _ (call (Value.ref 77) _) _ _ _ | show wpAny _ _ (call (Value.ref 70) _) _ _ _ | show wpAny _ _ (call (Value.builtin "len") _) _ _ _ | show wpAny _ _ (exec (Stmt.For _ _ _ _ _) _) _ _ _ | show wpAny _ _ (compareOp CmpOp.NotEq (Value.ref _) (Value.ref _)) _ _ _)); first | (exfalso; (first | lia | omega)) | (k_unfold; (try dsimp only)) | walk1 | (dsimp only; walk1) | (leave1; walk_say "STEP leave1"; try dsimp only)))
      rename Fr _ _ _ _ => F
      rename News _ _ _ _ => N
      refine' ne_words ?w1a ?w1b ?w1c ?_
      case w1a => exact ⟨_, (N (l, ol) (by first | ((repeat (first | exact List.mem_cons_self | apply List.mem_cons_of_mem)); done) | simp)).1, hcl, _, hdl⟩
      case w1b => exact ⟨_, (N _ List.mem_cons_self).1, rfl, _, rfl⟩
      case w1c => exact (show un + 3 < cLine by (first | lia | omega))
      (repeat' ((fail_if_success (with_reducible first | show wpAny _ _ (call (Value.ref 77) _) _ _ _ | show wpAny _ _ (call (Value.ref 70) _) _ _ _ | show wpAny _ _ (call (Value.builtin "len") _) _ _ _ | show wpAny _ _ (exec (Stmt.For _ _ _ _ _) _) _ _ _ | show wpAny _ _ (compareOp CmpOp.NotEq (Value.ref _) (Value.ref _)) _ _ _)); first | (exfalso; (first | lia | omega)) | (k_unfold; (try dsimp only)) | walk1 | (dsimp only; walk1) | (leave1; walk_say "STEP leave1"; try dsimp only)))
      rename Fr _ _ _ _ => F
      rename News _ _ _ _ => N
      have nJ := N (J, oJ) (by first | ((repeat (first | exact List.mem_cons_self | apply List.mem_cons_of_mem)); done) | simp)
      have nt := N (tp, ot) (by first | ((repeat (first | exact List.mem_cons_self | apply List.mem_cons_of_mem)); done) | simp)
      exact hKn _ ⟨rfl, rfl, gbA, htm2 _ F.keep fun q hq => (N q (by first | ((repeat (first | exact hq | exact List.mem_cons_self | apply List.mem_cons_of_mem)); done) | simp [hq])).1, ⟨_, nJ.1, hcJ, hdJ⟩, ⟨_, nt.1, htc, _, hdt⟩, g2, _, TT.trans TT2, B2, F, rfl, rfl, rfl, rfl, nJ.2.2, nJ.2.1, nt.2.2, nt.2.1⟩
    · unfold ocN at TV
      rw [if_neg h1] at TV
      obtain ⟨tf, rfl⟩ := TV
      (repeat' ((fail_if_success (with_reducible first | show wpAny _ _ (call (Value.ref 77) _) _ _ _ | show wpAny _ _ (call (Value.ref 70) _) _ _ _ | show wpAny _ _ (call (Value.builtin "len") _) _ _ _ | show wpAny _ _ (exec (Stmt.For _ _ _ _ _) _) _ _ _ | show wpAny _ _ (compareOp CmpOp.NotEq (Value.ref _) (Value.ref _)) _ _ _)); first | (exfalso; (first | lia | omega)) | (k_unfold; (try dsimp only)) | walk1 | (dsimp only; walk1) | (leave1; walk_say "STEP leave1"; try dsimp only)))
      rename Fr _ _ _ _ => F
      rename News _ _ _ _ => N
      refine ne_two (x := .ref x) (y := .none) (x' := .ref D1) (y' := .none) ?e1x5 ?e2x5 ?e3x5 ?e4x5 ?e5x5 ?_
      case e1x5 => exact ⟨_, (N _ List.mem_cons_self).1, rfl, _, rfl⟩
      case e2x5 => exact ⟨_, (N (K9, W.listOf #[Value.ref D1, Value.none] 0) (by first | ((repeat (first | exact List.mem_cons_self | apply List.mem_cons_of_mem)); done) | simp)).1, rfl, _, rfl⟩
      case e3x5 => exact (show un + 3 < cLine by (first | lia | omega))
      case e4x5 => exact eq_copy (gx2.at fun o e => F.keep _ _ e) ⟨_, (N (D1, W.listOf vs.toArray c1) (by first | ((repeat (first | exact List.mem_cons_self | apply List.mem_cons_of_mem)); done) | simp)).1, rfl, _, rfl⟩ (show un + 3 + 1 < cLine by (first | lia | omega))
      case e5x5 => exact SeqAt.EqAt.same _
      (repeat' ((fail_if_success (with_reducible first | show wpAny _ _ (call (Value.ref 77) _) _ _ _ | show wpAny _ _ (call (Value.ref 70) _) _ _ _ | show wpAny _ _ (call (Value.builtin "len") _) _ _ _ | show wpAny _ _ (exec (Stmt.For _ _ _ _ _) _) _ _ _ | show wpAny _ _ (compareOp CmpOp.NotEq (Value.ref _) (Value.ref _)) _ _ _)); first | (exfalso; (first | lia | omega)) | (k_unfold; (try dsimp only)) | walk1 | (dsimp only; walk1) | (leave1; walk_say "STEP leave1"; try dsimp only)))
      rename Fr _ _ _ _ => F
      rename News _ _ _ _ => N
      refine nearest (mods := []) (pushX B2 F rfl rfl) (fun _ h => nomatch h) X0 T h3 ?r1 ?r2 ?r3
      case r1 => exact (show dp + 1 + 12 < recursionLimit by (first | lia | omega))
      case r2 => exact (show un + 3 + 12 < cLine by (first | lia | omega))
      intro s11 k11 g11 d11 o11
      obtain ⟨h11, gn11, dd11, tk11, os11⟩ := s11
      dsimp only at k11 g11 d11 o11
      subst g11 d11 o11
      have F1 := frKeep F fun b o e => k11 b o (by first | ((repeat (first | exact List.mem_cons_self | apply List.mem_cons_of_mem)); done) | simp) e
      have N1 := newsKeep N fun b o e => k11 b o (by first | ((repeat (first | exact List.mem_cons_self | apply List.mem_cons_of_mem)); done) | simp) e
      clear F N
      (repeat' ((fail_if_success (with_reducible first | show wpAny _ _ (call (Value.ref 77) _) _ _ _ | show wpAny _ _ (call (Value.ref 70) _) _ _ _ | show wpAny _ _ (call (Value.builtin "len") _) _ _ _ | show wpAny _ _ (exec (Stmt.For _ _ _ _ _) _) _ _ _ | show wpAny _ _ (compareOp CmpOp.NotEq (Value.ref _) (Value.ref _)) _ _ _)); first | (exfalso; (first | lia | omega)) | (k_unfold; (try dsimp only)) | walk1 | (dsimp only; walk1) | (leave1; walk_say "STEP leave1"; try dsimp only)))
      rename Fr _ _ _ _ => F
      rename News _ _ _ _ => N
      have nJ := N (J, oJ) (by first | ((repeat (first | exact List.mem_cons_self | apply List.mem_cons_of_mem)); done) | simp)
      have nt := N (tp, ot) (by first | ((repeat (first | exact List.mem_cons_self | apply List.mem_cons_of_mem)); done) | simp)
      exact hKn _ ⟨rfl, rfl, gbA, htm2 _ F.keep fun q hq => (N q (by first | ((repeat (first | exact hq | exact List.mem_cons_self | apply List.mem_cons_of_mem)); done) | simp [hq])).1, ⟨_, nJ.1, hcJ, hdJ⟩, ⟨_, nt.1, htc, _, hdt⟩, g2, _, TT.trans TT2, B2, F, rfl, rfl, rfl, rfl, nJ.2.2, nJ.2.1, nt.2.2, nt.2.1⟩
end Mine
end
theorem Mine.anewLz : True := by
  w_top off
  exact trivial
section
open PySem PySem.W PySem.Calls PyProof.Rows
set_option Elab.async false
set_option maxRecDepth 100000
set_option linter.unusedVariables false
namespace Mine
open LCg
abbrev ZSt (z TI TO i1 i2 r1 r2 : Addr) (xs ys : List Value) (i : Nat) (h : Heap) : Prop :=
  IsZip h z TI TO .none ∧ IsPair h TI (.ref i1) (.ref i2) ∧ (∃ a b, IsPair h TO a b) ∧ h.IsListIter i1 r1 i ∧ h.IsListIter i2 r2 i ∧ h.IsList r1 xs.toArray ∧ h.IsList r2 ys.toArray

theorem lc_zip {prog : Program} {w : World} {A : Around} {E : Value → Shared → Prop} {s : Shared} {env : Env} {a b : Str} {elt iter : Expr} {pa pb tp : Pos} {kk : Nat} {scope : Scope} {cl : List (Str × Addr)} {pos : Pos} {r1 r2 : Addr} {xs ys : List Value} {Q : Value → Shared → Prop} (G : Value → Value → Value → Prop)
    (hA : A.handled = none) (hl1 : xs.length ≤ 1000) (hlen : xs.length = ys.length)
    (h : wpAny (model prog w) A (eval iter env) (fun xv s₁ => ∃ z TI TO i1 i2, xv = .ref z ∧ ZipApart z TI TO i1 i2 r1 r2 ∧ ZSt z TI TO i1 i2 r1 r2 xs ys 0 s₁.heap ∧
      (∀ C x y (i : Nat) s₃ m₃ E', xs[i]? = some x → ys[i]? = some y → s₃.heap.Ns C m₃ → m₃ a = some x → m₃ b = some y → wpAny (model prog w) A (eval elt (compEnvC scope cl C env)) (fun v s₄ => G x y v ∧ Keeps s₃ s₄) E' s₃) ∧
      (∀ D h' tk (vs : List Value), (∀ b o, b ∉ [z, TO, i1, i2] → s₁.heap.get? b = some o → h'.get? b = some o) → s₁.heap.get? D = none → h'.IsList D vs.toArray → vs.length = xs.length → (∀ (i : Nat) x y, xs[i]? = some x → ys[i]? = some y → ∃ v, vs[i]? = some v ∧ G x y v) → Q (.ref D) { s₁ with heap := h', toks := tk })) E s)
    (hclos : closureFor scope env = pure cl := by rfl) (hcell : ∀ y ∈ scope.names, y.2 ≠ .cell := by decide) (hkind : scope.kind = .function := by rfl)
    (hnames : ∀ y ∈ scope.names, y.2 = .local → scope.names.lookup y.1 = some .local := by decide) (hxa : scope.names.lookup a = some .local := by rfl) (hxb : scope.names.lookup b = some .local := by rfl) (hab : ¬ a = b := by decide)
    (hs : ∀ x, foldedSetIterable iter env x = pure x := by intro _; rfl) :
    wpAny (model prog w) A (eval (.ListComp elt [⟨.Tuple [.Name a pa, .Name b pb] kk tp, iter, [], 0⟩] scope pos) env) Q E s := by
  rw [eval_ListComp]
  refine wpAny_comprehension_free (use := none) rfl hs hclos hkind hnames (wpAny_mono h (fun xv s₂ h₁ => ?_) fun _ _ e => e)
  obtain ⟨I, TI, TO, i1, i2, rfl, ap, hst, helt, hQ⟩ := h₁
  have W := WalksT.zip2 (prog := prog) (w := w) (A := A) hA I TI TO i1 i2 r1 r2 ap xs.toArray ys.toArray
  have hn : min xs.toArray.size ys.toArray.size = xs.length := by simp [hlen]
  refine W.self 0 _ _ _ hst ?_
  refine wpAny_newObj_type (wpAny_newFunctionEnv hcell (by intro y hy; simp at hy) (fun h₁ hns₁ hsb₁ => ?_) hkind)
  dsimp only at hns₁ hsb₁ ⊢
  generalize hH2 : s₂.heap.push { cls := .type "list", dict := none, data := .seq ([] : List Value).toArray } = H2 at hns₁ hsb₁ ⊢
  have hC : H2.objs.size = s₂.heap.objs.size + 1 := by rw [← hH2, Heap.size_push]
  have hDC : s₂.heap.objs.size ≠ H2.objs.size := by rw [hC]; exact Nat.ne_of_lt (Nat.lt_succ_self _)
  have below : ∀ b, b < s₂.heap.objs.size → b ≠ H2.objs.size ∧ b ≠ s₂.heap.objs.size := fun b hb => ⟨by rw [hC]; exact Nat.ne_of_lt (Nat.lt_succ_of_lt hb), Nat.ne_of_lt hb⟩
  have old : ∀ b o, s₂.heap.get? b = some o → h₁.get? b = some o := fun b o e => hsb₁.extBut b o (below b (Heap.lt_size e)).1 (Heap.get?_push_of_some _ (hH2 ▸ Heap.get?_push_of_some _ e))
  have hacc : h₁.get? s₂.heap.objs.size = some (lst []) := hsb₁.extBut _ _ hDC (Heap.get?_push_of_some _ (hH2 ▸ Heap.get?_push_size _ rfl))
  have hst₁ := W.frame 0 _ h₁ hst fun b _ o e => old b o e
  have fresh : ∀ a, s₂.heap.objs.size ≤ a → s₂.heap.get? a = none := fun a ha => by
    cases e : s₂.heap.get? a with
    | none => rfl
    | some o' => exact absurd (Heap.lt_size e) (Nat.not_lt.mpr ha)
  have wlt : ∀ q ∈ [I, TI, TO, i1, i2, r1, r2], q < s₂.heap.objs.size := by
    obtain ⟨z1, z2, ⟨_, _, z3⟩, ⟨_, z4, _⟩, ⟨_, z5, _⟩, ⟨_, z6, _⟩, ⟨_, z7, _⟩⟩ := hst
    intro q hq
    simp only [List.mem_cons, List.not_mem_nil, or_false] at hq
    rcases hq with rfl | rfl | rfl | rfl | rfl | rfl | rfl
    · exact Heap.lt_size z1
    · exact Heap.lt_size z2
    · exact Heap.lt_size z3
    · exact Heap.lt_size z4
    · exact Heap.lt_size z5
    · exact Heap.lt_size z6
    · exact Heap.lt_size z7
  have wD : s₂.heap.objs.size ∉ [I, TI, TO, i1, i2, r1, r2] := fun q => Nat.lt_irrefl _ (wlt _ q)
  have wC : H2.objs.size ∉ [I, TI, TO, i1, i2, r1, r2] := fun q => (below _ (wlt _ q)).1 rfl
  have wDw : s₂.heap.objs.size ∉ [I, TO, i1, i2] := fun q => wD (W.sub _ q)
  have wCw : H2.objs.size ∉ [I, TO, i1, i2] := fun q => wC (W.sub _ q)
  have loop : ∀ s₃ : Shared, s₃ = { s₂ with heap := h₁, toks := s₂.toks + ([] : List (Str × Value)).length } →
      codeAny (model prog w) A (.compLoop (.ListComp elt [⟨.Tuple [.Name a pa, .Name b pb] kk tp, iter, [], 0⟩] scope pos) 0 (.ref I) (.ref s₂.heap.objs.size) (compEnvC scope cl H2.objs.size env))
        (compPost (model prog w) A E none Q (.ref s₂.heap.objs.size) H2.objs.size) s₃ := by
    rintro s₃ rfl
    refine kcp_loop (fun k s' => ∃ (h' : Heap) (tk : Nat) (i : Nat) (vs : List Value) (m' : Str → Option Value), s' = { s₂ with heap := h', toks := tk } ∧ i ≤ xs.length ∧ k = xs.length + 1 - i ∧ vs.length = i ∧ ZSt I TI TO i1 i2 r1 r2 xs ys i h' ∧ h'.Ns H2.objs.size m' ∧ h'.get? s₂.heap.objs.size = some (lst vs) ∧
      (∀ (j : Nat) x y, j < i → xs[j]? = some x → ys[j]? = some y → ∃ v, vs[j]? = some v ∧ G x y v) ∧ (∀ b o, b ≠ H2.objs.size → b ≠ s₂.heap.objs.size → b ∉ [I, TO, i1, i2] → s₂.heap.get? b = some o → h'.get? b = some o)) ?_ (xs.length + 1)
      ⟨h₁, _, 0, [], _, rfl, Nat.zero_le _, rfl, rfl, hst₁, hns₁, hacc, fun j x y hj => absurd hj (Nat.not_lt_zero _), fun b o _ _ _ e => old b o e⟩
    rintro k s' ⟨h', tk, i, vs, m', rfl, hi, rfl, hvl, hst', hn', hD', hG, hk⟩
    by_cases hlt : i < xs.length
    · refine W.item i _ _ _ (by rw [hn]; exact hlt) hst' fun T vals h₂ tk₂ hP _ hT hMd hk₂ => ?_
      refine W.go _ _ _ i T _ _ _ hMd fun h₃ hst₃ hk₃ => ?_
      obtain ⟨x, y, hx, hy, rfl⟩ := hP
      have hx' : xs[i]? = some x := by simpa using hx
      have hy' : ys[i]? = some y := by simpa using hy
      have hT3 : h₃.IsTuple T #[x, y] := hT.at fun o e => hk₃ _ _ (W.apart i T h₂ hMd) e
      have up₃ : ∀ c o, c ∉ [I, TO, i1, i2] → h'.get? c = some o → h₃.get? c = some o := fun c o hc e => hk₃ c o hc (hk₂ c o hc e)
      refine kcp_assign (env := compEnvC scope cl H2.objs.size env) hA hT3 (lookup_relabel_local hxa) (lookup_relabel_local hxb) (by simp [compEnvC, relabel, hkind]) (hn'.at' fun o e => up₃ _ o wCw e) fun h₄ tk₄ hn₄ hs₄ => ?_
      have up : ∀ c o, c ∉ [I, TO, i1, i2] → c ≠ H2.objs.size → h'.get? c = some o → h₄.get? c = some o := fun c o h1 h2 e => hs₄ c o h2 (up₃ c o h1 e)
      refine wpAny_mono (helt H2.objs.size x y i _ _ _ hx' hy' hn₄ (by simp [hab]) (by first | ((repeat (first | exact List.mem_cons_self | apply List.mem_cons_of_mem)); done) | simp)) (fun v s₅ h₅ => ?_) fun _ _ e => e
      obtain ⟨hg, h₅, tk₅, rfl, hk₅⟩ := h₅
      have zD : h₅.get? s₂.heap.objs.size = some (lst vs) := hk₅ _ _ (up _ _ wDw hDC hD')
      have hst₅ : ZSt I TI TO i1 i2 r1 r2 xs ys (i + 1) h₅ := W.frame _ _ h₅ hst₃ fun c hc o e => hk₅ _ _ (hs₄ c o (fun q => by rw [show c = H2.objs.size from q] at hc; exact wC hc) e)
      refine append_at (hsz := by show vs.toArray.size ≤ sizeLine; rw [List.size_toArray, hvl]; exact Nat.le_trans hi (Nat.le_trans hl1 (by decide))) zD fun h₆ hs₆ hD₆ => ?_
      refine ⟨xs.length + 1 - (i + 1), by (clear hD₆ hs₆ hst₅ zD hk₅ hg up hs₄ hn₄ up₃ hT3 hy' hx' hT hy hx hk₃ hst₃ hk₂ hMd hlt hk hG hD' hn' hst' hvl wCw wDw wC wD wlt fresh hst₁ hacc old below hDC hC hsb₁ hns₁ hH2 hn W hQ helt hst ap hs hab hxb hxa hnames hkind hcell hclos h hlen hl1 hA; grind), h₆, tk₅, i + 1, vs ++ [v], _, rfl, hlt, rfl, by simp [hvl], W.frame _ _ h₆ hst₅ fun c hc o e => hs₆.extBut c o (fun q => wD (q ▸ hc)) e,
        (hn₄.keeps hk₅).sameBut hs₆ (Ne.symm hDC), hD₆.trans (congrArg some (lst_snoc vs v)), fun j x' y' hj hx2 hy2 => ?_, fun c o h1 h2 h3 e => hs₆.extBut c o h2 (hk₅ _ _ (up c o h3 h1 (hk c o h1 h2 h3 e)))⟩
      rcases Nat.lt_or_eq_of_le (Nat.le_of_lt_succ hj) with hj | rfl
      · obtain ⟨v', hv', hg'⟩ := hG j x' y' hj hx2 hy2
        exact ⟨v', by rw [List.getElem?_append_left (by (clear hg' hv' hy2 hx2 hD₆ hs₆ hst₅ zD hk₅ hg up hs₄ hn₄ up₃ hT3 hy' hx' hT hy hx hk₃ hst₃ hk₂ hMd hlt hk hG hD' hn' hst' hi wCw wDw wC wD wlt fresh hst₁ hacc old below hDC hC hsb₁ hns₁ hH2 hn W hQ helt hst ap hs hab hxb hxa hnames hkind hcell hclos h hlen hl1 hA; grind))]; exact hv', hg'⟩
      · rw [hx'] at hx2; rw [hy'] at hy2
        cases hx2; cases hy2
        exact ⟨v, by rw [List.getElem?_append_right (by grind), hvl]; simp, hg⟩
    · have hin : i = xs.length := Nat.le_antisymm hi (Nat.not_lt.mp hlt)
      subst hin
      refine W.done _ _ _ (by rw [hn]; exact hst') fun h₂ tk₂ hk₂ => ?_
      refine ⟨_, hn'.at' fun o e => hk₂ _ o wCw e, fun h'' hs'' => hQ _ h'' tk₂ vs (fun c o hc e => ?_) (fresh _ (Nat.le_refl _)) ⟨_, hs''.extBut _ _ hDC (hk₂ _ _ wDw hD'), rfl, _, rfl⟩ hvl fun j x y hx hy => hG j x y (List.getElem?_eq_some_iff.mp hx).1 hx hy⟩
      have hb := below c (Heap.lt_size e)
      exact hs''.extBut _ _ hb.1 (hk₂ _ _ hc (hk c o hb.1 hb.2 hc e))
  exact codeAny_compStart_list (loop _ rfl) (W.self 0 _ _ _ hst₁ (loop _ rfl))
end Mine
end
theorem Mine.anewLf : True := by
  w_top off
  exact trivial
section
open PySem PySem.W PySem.Calls PyProof.Rows
set_option Elab.async false
set_option maxRecDepth 100000
set_option linter.unusedVariables false
namespace Mine
section
variable {prog : Program} {w : World} {A : Around} {E : Value → Shared → Prop} {s : Shared} {env : Env}
/-- a loop over a list -/
theorem for_list {x : Str} {px pos : Pos} {iter : Expr} {body : List Stmt} {r : Addr} {rv : List Value} {Q : Flow → Shared → Prop} (hA : A.handled = none) (hiter : ∀ Q' : Value → Shared → Prop, Q' (.ref r) s → wpAny (model prog w) A (eval iter env) Q' E s)
    (hr : s.heap.IsList r rv.toArray) (Inv : Addr → Nat → Shared → Prop)
    (it : ∀ I i s', Inv I i s' → s'.heap.IsListIter I r i ∧ s'.heap.IsList r rv.toArray)
    (start : ∀ I h', s.heap.objs.size ≤ I → (∀ b o, s.heap.get? b = some o → h'.get? b = some o) → h'.IsListIter I r 0 → h'.IsList r rv.toArray → Inv I 0 { s with heap := h' })
    (turn : ∀ I i v s' h' tk E' (K : Flow → Shared → Prop), (∀ s₃, Inv I (i + 1) s₃ → K .next s₃) → i < rv.length → Inv I i s' → rv[i]? = some v → h'.IsListIter I r (i + 1) → h'.IsList r rv.toArray → (∀ b o, b ≠ I → s'.heap.get? b = some o → h'.get? b = some o) →
      wpAny (model prog w) A (storeName env x v) (fun _ s₂ => wpAny (model prog w) A (execs body env) K E' s₂) E' { s' with heap := h', toks := tk })
    (done : ∀ I s' h' tk, Inv I rv.length s' → (∀ b o, b ≠ I → s'.heap.get? b = some o → h'.get? b = some o) → Q .next { s' with heap := h', toks := tk })
    (hs : ∀ x, foldedSetIterable iter env x = pure x := by intro _; rfl) :
    wpAny (model prog w) A (exec (.For (.Name x px) iter body [] pos) env) Q E s := by
  have hlt : r < s.heap.objs.size := by obtain ⟨_, e, _⟩ := hr; exact Heap.lt_size e
  refine wpAny_For (hiter _ (wpAny_pyIter_list hr ?_)) hs
  have W := Walks.list (prog := prog) (w := w) (A := A) hA s.heap.objs.size r (Nat.ne_of_lt hlt) rv.toArray
  rw [List.size_toArray] at W
  refine loop_walks W (Inv s.heap.objs.size) (fun i s' hI => it _ i s' hI) (start _ _ (Nat.le_refl _) (fun b o e => Heap.get?_push_of_some _ e) ⟨_, Heap.get?_push_size _ rfl, rfl, rfl⟩ (hr.push _)) (fun i v s' h' tk E' hi hI hP hst hk => ?_) (fun s' h' tk hI hk => ?_)
  · exact turn _ i v s' h' tk E' _ (fun _ h => h) hi hI (by simpa using hP) hst.1 hst.2 fun b o hb e => hk b o (by simpa using hb) e
  · exact done _ s' h' tk hI fun b o hb e => hk b o (by simpa using hb) e
end
open Float64
/-- a whole number over a power of two -/
theorem fl_div_ii {prog : Program} {w : World} {A : Around} {E Q : Value → Shared → Prop} {s : Shared} {n : Int} {t u : Tok} {k : Nat} (hA : A.handled = none) (hk : k ≤ 1074) (hn : n.natAbs < 2 ^ 1022) (hr : Rep (n * 2 ^ (1074 - k)).natAbs)
    (h : ∀ r tk, Fl r (n * 2 ^ (1074 - k)) → Q (.float r tk) { s with toks := s.toks + 1 }) : wpAny (model prog w) A (binaryOp .Div (.int n t) (.int (2 ^ k) u)) Q E s := by
  have hb : (2 : Int) ^ k ≠ 0 := by rw [← pow_cast]; have := Nat.two_pow_pos k; omega
  have hpos : (0 : Int) < 2 ^ k := by rw [← pow_cast]; have := Nat.two_pow_pos k; omega
  refine Flt.div_ii_fits hA ?_ (fun q => absurd q hb) fun _ _ => h _ _ ?_
  · exact Nat.lt_of_lt_of_le hn (Nat.pow_le_pow_right (by decide) (by decide))
  · have hneg : (decide (n < 0) != decide ((2 : Int) ^ k < 0)) = decide (n < 0) := by
      have : decide ((2 : Int) ^ k < 0) = false := decide_eq_false (by omega)
      rw [this]; simp
    rw [hneg, natAbs_pow]
    have key := right_exact (ofFrac_right (neg := decide (n < 0)) (n := n.natAbs) (d := 2 ^ k) (W := n.natAbs * 2 ^ 1074) (D := 2 ^ k) (Nat.two_pow_pos k) rfl (Nat.two_pow_pos k)) (Nat.two_pow_pos k) (X := (n * 2 ^ (1074 - k)).natAbs) (by
      rw [Int.natAbs_mul, natAbs_pow]
      have e : (2 : Nat) ^ 1074 = 2 ^ k * 2 ^ (1074 - k) := by rw [← Nat.pow_add]; congr 1; omega
      rw [e]
      ac_rfl) hr
    have e2 : sgn (decide (n < 0)) (n * 2 ^ (1074 - k)).natAbs = n * 2 ^ (1074 - k) := by
      rw [Int.natAbs_mul, natAbs_pow, sgn_mul, sgn_natAbs_self, pow_cast]
    rw [e2] at key
    exact key
end Mine
end
theorem Mine.anewLp : True := by
  w_top off
  exact trivial
section
open PySem PySem.W PyProof.Rows PySem.Calls
set_option Elab.async false
set_option linter.unusedVariables false
namespace Mine
open Float64
/-- a float's part and its size, by a number of the script -/
def fpart (k : Int) : Int := (k.fdiv 3).fmod (2 ^ 54) - 2 ^ 53
def fsize (k : Int) : Int := 2 ^ (100 * k.fmod 3).toNat
theorem fmod3 (n : Int) : 0 ≤ n.fmod 3 ∧ n.fmod 3 < 3 := ⟨Int.fmod_nonneg_of_pos _ (by decide), Int.fmod_lt_of_pos _ (by decide)⟩
theorem fpart_le (n : Int) : (fpart n).natAbs ≤ 2 ^ 53 := by
  have h1 : 0 ≤ (n.fdiv 3).fmod (2 ^ 54) := Int.fmod_nonneg_of_pos _ (by decide)
  have h2 : (n.fdiv 3).fmod (2 ^ 54) < 2 ^ 54 := Int.fmod_lt_of_pos _ (by decide)
  unfold fpart
  omega
theorem fpart_lt (n : Int) : (fpart n).natAbs < 2 ^ 54 := Nat.lt_of_le_of_lt (fpart_le n) (by decide)
theorem fsize_nat (n : Int) : ∃ r : Nat, r ≤ 2 ∧ fsize n = ((2 ^ (100 * r) : Nat) : Int) := by
  obtain ⟨r0, r3⟩ := fmod3 n
  refine ⟨(n.fmod 3).toNat, by lia, ?_⟩
  unfold fsize
  rw [show (100 * n.fmod 3).toNat = 100 * (n.fmod 3).toNat by (clear r3 r0; lia)]
  exact (Int.natCast_pow 2 _).symm
theorem fsize_lt (n : Int) : (fsize n).natAbs < 2 ^ 201 := by
  obtain ⟨r, hr, e⟩ := fsize_nat n
  rw [e, Int.natAbs_natCast]
  exact Nat.pow_lt_pow_right (by decide) (by grind)
theorem fnum_lt (n : Int) : (fpart n * fsize n).natAbs < 2 ^ 1022 := Nat.lt_of_lt_of_le (natAbs_mul_lt (fpart_lt n) (fsize_lt n)) (Nat.pow_le_pow_right (by decide) (by decide))
theorem fnum_rep (n : Int) : Rep (fpart n * fsize n * 2 ^ (1074 - 100)).natAbs := by
  obtain ⟨r, hr, e⟩ := fsize_nat n
  have e2 : fsize n * 2 ^ (1074 - 100) = ((2 ^ (100 * r + 974) : Nat) : Int) := by
    rw [e, Nat.pow_add, Int.natCast_mul, pow_cast 974]
  rw [Int.mul_assoc, e2]
  refine rep_of_dvd (k := 100 * r + 974) (Int.dvd_mul_left _ _) ?_ (by grind)
  rw [Int.natAbs_mul, Int.natAbs_natCast]
  exact Nat.mul_le_mul_right _ (fpart_le n)
end Mine
end
theorem Mine.anewL3 : True := by
  w_top off
  exact trivial
section
open PySem PySem.W PyProof.Rows PySem.Calls
set_option Elab.async false
set_option maxRecDepth 100000
set_option maxHeartbeats 2000000
set_option linter.unusedVariables false
namespace Mine
/-- values that are the floats of numbers -/
def FltAre (vs : List Value) (ks : List Int) : Prop := vs.length = ks.length ∧ ∀ (i : Nat) v, vs[i]? = some v → ∃ k x t, ks[i]? = some k ∧ v = .float x t ∧ Fl x (fpart k * fsize k * 2 ^ 974)
def fsum0 (ks : List Int) : Int := (ks.map fun k => fpart k * fsize k).sum

theorem fsum0_take {ks : List Int} : ∀ {i : Nat} {n : Int}, ks[i]? = some n → fsum0 (ks.take (i + 1)) = fsum0 (ks.take i) + fpart n * fsize n := by
  induction ks with
  | nil => intro i n h; simp at h
  | cons k ks ih =>
    intro i n h
    cases i with
    | zero => simp at h; subst h; simp [fsum0]
    | succ i =>
      have := ih (i := i) (n := n) (by simpa using h)
      simp only [fsum0, List.take_succ_cons, List.map_cons, List.sum_cons] at this ⊢
      rw [this, Int.add_assoc]
theorem flt_snoc {vs : List Value} {ks : List Int} {i : Nat} {n : Int} {x : UInt64} {t : Tok} (h : FltAre vs (ks.take i)) (hn : ks[i]? = some n) (hx : Fl x (fpart n * fsize n * 2 ^ (1074 - 100))) : FltAre (vs ++ [Value.float x t]) (ks.take (i + 1)) := by
  have hi : i < ks.length := (List.getElem?_eq_some_iff.mp hn).1
  have hl : vs.length = i := by rw [h.1, List.length_take]; (first | lia | omega)
  refine ⟨by simp [hl]; (first | lia | omega), fun j v hv => ?_⟩
  rcases Nat.lt_or_ge j vs.length with hj | hj
  · rw [List.getElem?_append_left hj] at hv
    obtain ⟨k, y, u, h1, h2, h3⟩ := h.2 j v hv
    refine ⟨k, y, u, ?_, h2, h3⟩
    rw [List.getElem?_take] at h1 ⊢
    rw [if_pos (by (first | lia | omega))] at h1 ⊢
    exact h1
  · rw [List.getElem?_append_right hj] at hv
    have : j = i := by
      have := (List.getElem?_eq_some_iff.mp hv).1
      simp at this
      (first | lia | omega)
    subst this
    rw [hl, Nat.sub_self] at hv
    simp at hv
    exact ⟨n, x, t, by rw [List.getElem?_take, if_pos (Nat.lt_succ_self _)]; exact hn, hv.symm, hx⟩
theorem ints_at {vs : List Value} {ns : List Int} (h : IntsAre vs ns) : ∀ {i : Nat} {v : Value}, vs[i]? = some v → ∃ n t, v = .int n t ∧ ns[i]? = some n := by
  induction h with
  | nil => intro i v h; simp at h
  | cons n t _ ih =>
    intro i v h
    cases i with
    | zero => simp at h; exact ⟨n, t, h.symm, rfl⟩
    | succ i => exact ih (by simpa using h)
theorem law3 {w : World} {p : Program} {loose : List Str} {mean : ExcName → Option Value} {mg mb : Str → Option Value} {base g : Heap} {s : Shared} {Q E : Value → Shared → Prop} {L' : Addr} {m : Str → Option Value} {S : Scope} {b : Stmt} (eS : S = defS 8) (eb : b = defB 8 7)
   (B : Below callerA base [] g) (X : (hd2.heap_39 w.params).In base) (T : Top p loose mean mg mb base)
   {a1 a5 : Addr} {v1 : List Value} {sc : List Int} {news : List (Addr × Obj)} {t1 : Tok} {Q1 : Flow → Shared → Prop} {E1 : Value → Shared → Prop}
   (F : Fr g L' s.heap m) (hm1 : m "script" = some (.ref a1)) (hm2 : m "floats" = some (.ref a5)) (hm3 : m "units" = some (.int 0 t1))
   (ha1 : (a1, W.listOf v1.toArray 0) ∈ news) (N : News g L' s.heap ((a5, W.listOf #[] 0) :: news)) (hn : ∀ q ∈ news, q.1 ≠ a5)
   (i1 : IntsAre v1 sc) (len : sc.length ≤ 31)
   (k : ∀ h' tk m' c vs t2, Fr g L' h' m' → (∀ x : Str, x ≠ "a" → x ≠ "part" → x ≠ "size" → x ≠ "units" → m' x = m x) → m' "units" = some (.int (fsum0 sc) t2) → News g L' h' ((a5, W.listOf vs.toArray c) :: news) → FltAre vs sc → Q1 .next { s with heap := h', toks := tk }) :
   wpAny (model PySem.Challenge.rw_kp0013_02.row.prog w) (callerA.deeper (envOf "law" S L' 89 (.ref 88))) (exec b (envOf "law" S L' 89 (.ref 88))) Q1 E1 s := by
  revert X; k_fill; intro X
  have Xg := X.keeps B.stays
  have Tg := T.keeps B.stays
  conv at eS => rhs; whnf
  conv at eb => rhs; whnf
  subst eS eb
  have h1 : s.heap.IsList a1 v1.toArray := ⟨_, (N _ (List.mem_cons_of_mem _ ha1)).1, rfl, _, rfl⟩
  refine for_list (r := a1) (rv := v1) rfl (fun Q' h => nameX_L F hm1 h) h1 (fun I i s' => s'.gens = s.gens ∧ s'.drawn = s.drawn ∧ s'.os = s.os ∧ s'.heap.IsListIter I a1 i ∧ s'.heap.IsList a1 v1.toArray ∧ I ≠ L' ∧ g.get? I = none ∧ I ≠ a5 ∧ (∀ q ∈ news, q.1 ≠ I) ∧
    ∃ m' c vs t2, Fr g L' s'.heap m' ∧ (∀ x : Str, x ≠ "a" → x ≠ "part" → x ≠ "size" → x ≠ "units" → m' x = m x) ∧ m' "units" = some (.int (fsum0 (sc.take i)) t2) ∧ News g L' s'.heap ((a5, W.listOf vs.toArray c) :: news) ∧ FltAre vs (sc.take i)) ?_ ?_ ?_ ?_
  · exact fun I i s' h => ⟨h.2.2.2.1, h.2.2.2.2.1⟩
  · intro I h' hI hk hit hl
    have n5 := N (a5, W.listOf #[] 0) List.mem_cons_self
    refine ⟨rfl, rfl, rfl, hit, hl, ?_, ?_, ?_, ?_, m, 0, [], t1, frKeep F hk, fun _ _ _ _ _ => rfl, hm3, newsKeep N hk, rfl, fun i v hv => by simp at hv⟩
    · exact fun q => Nat.lt_irrefl _ (Nat.lt_of_lt_of_le F.ns.lt (q ▸ hI))
    · exact Heap.get?_none_of_le (Nat.le_trans F.above (Nat.le_trans (Nat.le_of_lt F.ns.lt) hI))
    · exact fun q => Nat.lt_irrefl _ (Nat.lt_of_lt_of_le (Heap.lt_size n5.1) (q ▸ hI))
    · exact fun q hq e => Nat.lt_irrefl _ (Nat.lt_of_lt_of_le (Heap.lt_size (N q (List.mem_cons_of_mem _ hq)).1) (e ▸ hI))
  · intro I i v s' h' tk E' K hKn hi hInv hv hit hl hk
    obtain ⟨g1, d1, o1, _, _, j1, j2, j3, j4, m', c, vs, t2, F1, hm', hu, N1, hF⟩ := hInv
    obtain ⟨s'h, s'g, s'd, s't, s'o⟩ := s'
    dsimp only at *
    subst g1 d1 o1
    obtain ⟨n, tv, rfl, hsc⟩ := ints_at i1 hv
    obtain ⟨oI, hoI, hcI, hdI⟩ := id hit
    have F2 : Fr g L' h' m' := frBut (P := [I]) F1 (fun b o hb e => hk b o (by simpa using hb) e) (by simpa using Ne.symm j1) (fun b hb => by rw [List.mem_singleton.mp hb]; exact j2)
    have N2 : News g L' h' ((I, oI) :: (a5, W.listOf vs.toArray c) :: news) := newsAdd (newsBut (P := [I]) N1 (fun b o hb e => hk b o (by simpa using hb) e) (by
      intro q hq
      rcases List.mem_cons.mp hq with rfl | hq
      · simpa using Ne.symm j3
      · simpa using j4 q hq)) hoI j1 j2
    have hfl : m' "floats" = some (.ref a5) := (hm' "floats" (by decide) (by decide) (by decide) (by decide)).trans hm2
    have hi3 : vs.length ≤ 31 := by rw [hF.1, List.length_take]; (first | lia | omega)
    rw [pin2 hfl hu] at F2
    clear F1 N1 F N
    (repeat' ((fail_if_success (with_reducible first | show wpAny _ _ (call (Value.ref _) _) _ _ _ | show wpAny _ _ (exec (Stmt.For _ _ _ _ _) _) _ _ _ | show wpAny _ _ (binaryOp .Div _ _) _ _ _ | show wpAny _ _ (binaryOp .Pow _ _) _ _ _ | show wpAny _ _ (binaryOp .Mult _ _) _ _ _ | show wpAny _ _ (binaryOp .FloorDiv _ _) _ _ _)); first | (exfalso; omega) | (k_unfold; (try dsimp only)) | walk1 | (dsimp only; walk1) | (leave1; walk_say "STEP leave1"; try dsimp only)))
    have r0 := (fmod3 n).1
    have r3 := (fmod3 n).2
    have rb : (n.fmod 3).natAbs < 2 ^ 2 := by clear hi hi3 len; (first | lia | omega)
    have e0 : 0 ≤ 100 * n.fmod 3 := by clear hi hi3 len; (first | lia | omega)
    have e3 : 100 * n.fmod 3 ≤ 1000000 := by clear hi hi3 len; (first | lia | omega)
    clear r0 r3
    refine fdiv_to (v := n.fdiv 3) rfl (by decide) (by decide) ?_
    (repeat' ((fail_if_success (with_reducible first | show wpAny _ _ (call (Value.ref _) _) _ _ _ | show wpAny _ _ (exec (Stmt.For _ _ _ _ _) _) _ _ _ | show wpAny _ _ (binaryOp .Div _ _) _ _ _ | show wpAny _ _ (binaryOp .Pow _ _) _ _ _ | show wpAny _ _ (binaryOp .Mult _ _) _ _ _ | show wpAny _ _ (binaryOp .FloorDiv _ _) _ _ _)); first | (exfalso; omega) | (k_unfold; (try dsimp only)) | walk1 | (dsimp only; walk1) | (leave1; walk_say "STEP leave1"; try dsimp only)))
    refine pow_to (v := 2 ^ 54) rfl (by decide) (by decide) ?_
    (repeat' ((fail_if_success (with_reducible first | show wpAny _ _ (call (Value.ref _) _) _ _ _ | show wpAny _ _ (exec (Stmt.For _ _ _ _ _) _) _ _ _ | show wpAny _ _ (binaryOp .Div _ _) _ _ _ | show wpAny _ _ (binaryOp .Pow _ _) _ _ _ | show wpAny _ _ (binaryOp .Mult _ _) _ _ _ | show wpAny _ _ (binaryOp .FloorDiv _ _) _ _ _)); first | (exfalso; omega) | (k_unfold; (try dsimp only)) | walk1 | (dsimp only; walk1) | (leave1; walk_say "STEP leave1"; try dsimp only)))
    refine pow_to (v := 2 ^ 53) rfl (by decide) (by decide) ?_
    (repeat' ((fail_if_success (with_reducible first | show wpAny _ _ (call (Value.ref _) _) _ _ _ | show wpAny _ _ (exec (Stmt.For _ _ _ _ _) _) _ _ _ | show wpAny _ _ (binaryOp .Div _ _) _ _ _ | show wpAny _ _ (binaryOp .Pow _ _) _ _ _ | show wpAny _ _ (binaryOp .Mult _ _) _ _ _ | show wpAny _ _ (binaryOp .FloorDiv _ _) _ _ _)); first | (exfalso; omega) | (k_unfold; (try dsimp only)) | walk1 | (dsimp only; walk1) | (leave1; walk_say "STEP leave1"; try dsimp only)))
    refine mul_to (v := 100 * n.fmod 3) (m := 7) (n := 2) rfl (by decide) rb (by decide) ?_
    (repeat' ((fail_if_success (with_reducible first | show wpAny _ _ (call (Value.ref _) _) _ _ _ | show wpAny _ _ (exec (Stmt.For _ _ _ _ _) _) _ _ _ | show wpAny _ _ (binaryOp .Div _ _) _ _ _ | show wpAny _ _ (binaryOp .Pow _ _) _ _ _ | show wpAny _ _ (binaryOp .Mult _ _) _ _ _ | show wpAny _ _ (binaryOp .FloorDiv _ _) _ _ _)); first | (exfalso; omega) | (k_unfold; (try dsimp only)) | walk1 | (dsimp only; walk1) | (leave1; walk_say "STEP leave1"; try dsimp only)))
    refine pow_to (v := fsize n) (by unfold fsize; rfl) e0 e3 ?_
    (repeat' ((fail_if_success (with_reducible first | show wpAny _ _ (call (Value.ref _) _) _ _ _ | show wpAny _ _ (exec (Stmt.For _ _ _ _ _) _) _ _ _ | show wpAny _ _ (binaryOp .Div _ _) _ _ _ | show wpAny _ _ (binaryOp .Pow _ _) _ _ _ | show wpAny _ _ (binaryOp .Mult _ _) _ _ _ | show wpAny _ _ (binaryOp .FloorDiv _ _) _ _ _)); first | (exfalso; omega) | (k_unfold; (try dsimp only)) | walk1 | (dsimp only; walk1) | (leave1; walk_say "STEP leave1"; try dsimp only)))
    refine mul_to (v := fpart n * fsize n) rfl (fpart_lt n) (fsize_lt n) (by decide) ?_
    (repeat' ((fail_if_success (with_reducible first | show wpAny _ _ (call (Value.ref _) _) _ _ _ | show wpAny _ _ (exec (Stmt.For _ _ _ _ _) _) _ _ _ | show wpAny _ _ (binaryOp .Div _ _) _ _ _ | show wpAny _ _ (binaryOp .Pow _ _) _ _ _ | show wpAny _ _ (binaryOp .Mult _ _) _ _ _ | show wpAny _ _ (binaryOp .FloorDiv _ _) _ _ _)); first | (exfalso; omega) | (k_unfold; (try dsimp only)) | walk1 | (dsimp only; walk1) | (leave1; walk_say "STEP leave1"; try dsimp only)))
    refine pow_to (v := 2 ^ 100) rfl (by decide) (by decide) ?_
    (repeat' ((fail_if_success (with_reducible first | show wpAny _ _ (call (Value.ref _) _) _ _ _ | show wpAny _ _ (exec (Stmt.For _ _ _ _ _) _) _ _ _ | show wpAny _ _ (binaryOp .Div _ _) _ _ _ | show wpAny _ _ (binaryOp .Pow _ _) _ _ _ | show wpAny _ _ (binaryOp .Mult _ _) _ _ _ | show wpAny _ _ (binaryOp .FloorDiv _ _) _ _ _)); first | (exfalso; omega) | (k_unfold; (try dsimp only)) | walk1 | (dsimp only; walk1) | (leave1; walk_say "STEP leave1"; try dsimp only)))
    refine fl_div_ii (k := 100) rfl (by decide) (fnum_lt n) (fnum_rep n) (fun x tx hx => ?_)
    (repeat' ((fail_if_success (with_reducible first | show wpAny _ _ (call (Value.ref _) _) _ _ _ | show wpAny _ _ (exec (Stmt.For _ _ _ _ _) _) _ _ _ | show wpAny _ _ (binaryOp .Div _ _) _ _ _ | show wpAny _ _ (binaryOp .Pow _ _) _ _ _ | show wpAny _ _ (binaryOp .Mult _ _) _ _ _ | show wpAny _ _ (binaryOp .FloorDiv _ _) _ _ _)); first | (exfalso; omega) | (k_unfold; (try dsimp only)) | walk1 | (dsimp only; walk1) | (leave1; walk_say "STEP leave1"; try dsimp only)))
    rename Fr _ _ _ _ => F
    rename News _ _ _ _ => N
    have n5 := N (a5, W.listOf vs.toArray c) (by first | ((repeat (first | exact List.mem_cons_self | apply List.mem_cons_of_mem)); done) | simp)
    refine append_at (hsz := by rw [List.size_toArray]; exact Nat.le_trans hi3 (by decide)) n5.1 fun h6 hs6 hD6 => ?_
    have F6 := F.change hs6 n5.2.1 n5.2.2
    rw [show vs.toArray.push (Value.float x tx) = (vs ++ [Value.float x tx]).toArray by simp] at hD6
    have nI := N (I, oI) (by first | ((repeat (first | exact List.mem_cons_self | apply List.mem_cons_of_mem)); done) | simp)
    have N6 : News g L' h6 ((I, oI) :: (a5, W.listOf (vs ++ [Value.float x tx]).toArray _) :: news) :=
      newsAdd (newsAdd (fun q hq => by
        have nq := N q (by first | ((repeat (first | exact hq | exact List.mem_cons_self | apply List.mem_cons_of_mem)); done) | simp [hq])
        exact ⟨hs6.extBut _ _ (hn q hq) nq.1, nq.2⟩) hD6 n5.2.1 n5.2.2) (hs6.extBut _ _ j3 nI.1) nI.2.1 nI.2.2
    clear F N
    (repeat' ((fail_if_success (with_reducible first | show wpAny _ _ (call (Value.ref _) _) _ _ _ | show wpAny _ _ (exec (Stmt.For _ _ _ _ _) _) _ _ _ | show wpAny _ _ (binaryOp .Div _ _) _ _ _ | show wpAny _ _ (binaryOp .Pow _ _) _ _ _ | show wpAny _ _ (binaryOp .Mult _ _) _ _ _ | show wpAny _ _ (binaryOp .FloorDiv _ _) _ _ _)); first | (exfalso; omega) | (k_unfold; (try dsimp only)) | walk1 | (dsimp only; walk1) | (leave1; walk_say "STEP leave1"; try dsimp only)))
    refine mul_to (v := fpart n * fsize n) rfl (fpart_lt n) (fsize_lt n) (by decide) ?_
    (repeat' ((fail_if_success (with_reducible first | show _ ∧ _)); first | (k_unfold; (try dsimp only)) | walk1 | (dsimp only; walk1)))
    rename Fr _ _ _ _ => F
    rename News _ _ _ _ => N
    have nI7 := N (I, oI) (by first | ((repeat (first | exact List.mem_cons_self | apply List.mem_cons_of_mem)); done) | simp)
    have n17 := N (a1, W.listOf v1.toArray 0) (by simp [ha1])
    refine hKn _ ⟨rfl, rfl, rfl, ⟨_, nI7.1, hcI, hdI⟩, ⟨_, n17.1, rfl, _, rfl⟩, j1, j2, j3, j4, _, _, vs ++ [Value.float x tx], _, F, fun q h1 h2 h3 h4 => ?_, (by rw [fsum0_take hsc]; rfl), newsSub N fun q hq => List.mem_cons_of_mem _ hq, flt_snoc hF hsc hx⟩
    show (if q = "units" then _ else if q = "part" then _ else if q = "size" then _ else if q = "a" then _ else if q = "floats" then _ else if q = "units" then _ else m' q) = m q
    rw [if_neg h4, if_neg h2, if_neg h3, if_neg h1, if_neg h4]
    by_cases hf : q = "floats"
    · rw [if_pos hf, hf, hm2]
    · rw [if_neg hf]; exact hm' q h1 h2 h3 h4
  · intro I s' h' tk hInv hk
    obtain ⟨g1, d1, o1, _, _, j1, j2, j3, j4, m', c, vs, t2, F1, hm', hu, N1, hF⟩ := hInv
    obtain ⟨s'h, s'g, s'd, s't, s'o⟩ := s'
    dsimp only at *
    subst g1 d1 o1
    rw [IntsAre.length i1, List.take_length] at hu hF
    refine k h' tk m' c vs t2 (frBut (P := [I]) F1 (fun b o hb e => hk b o (by simpa using hb) e) (by simpa using Ne.symm j1) (fun b hb => by rw [List.mem_singleton.mp hb]; exact j2)) hm' hu (newsBut (P := [I]) N1 (fun b o hb e => hk b o (by simpa using hb) e) ?_) hF
    intro q hq
    rcases List.mem_cons.mp hq with rfl | hq
    · simpa using Ne.symm j3
    · simpa using j4 q hq
end Mine
end
theorem Mine.anewLm : True := by
  w_top off
  exact trivial
section
open PySem PySem.W PySem.Calls PyProof.Rows
set_option Elab.async false
set_option maxRecDepth 100000
set_option linter.unusedVariables false
namespace Mine
section
variable {prog : Program} {w : World} {A : Around} {E : Value → Shared → Prop} {s : Shared} {env : Env}
theorem letgo_tit {elts : List Expr} {x1 : Nat} {pos : Pos} {I l : Addr} {v : Value} {i : Nat} {Q : Unit → Shared → Prop} (hit : s.heap.IsTupleIter I l i) (hQ : Q () s) :
    wpAny (model prog w) A (letOwnedTupleGo (.Tuple elts x1 pos) (.ref I) v) Q E s := by
  obtain ⟨o, ho, hc, hd⟩ := hit
  unfold letOwnedTupleGo
  cases v with
  | ref T =>
    refine wpAny_bind (wpAny_load ho ?_)
    rw [hc, hd]
    show wpAny _ A (if (["enumerate", "zip", "dict_itemiterator", "dict_reverseitemiterator", "odict_iterator", "itertools.zip_longest", "itertools.pairwise"].contains "tuple_iterator" &&
        (#[.ref l, .int i 0] : Array Value)[0]? == some (rawInt T)) = true then _ else _) Q E s
    rw [if_neg (by
      intro h
      rw [show (["enumerate", "zip", "dict_itemiterator", "dict_reverseitemiterator", "odict_iterator", "itertools.zip_longest", "itertools.pairwise"].contains "tuple_iterator") = false from by decide, Bool.false_and] at h
      cases h)]
    exact wpAny_pure hQ
  | _ => exact wpAny_pure hQ
/-- a loop over a tuple of tuples -/
theorem for_tup4 {elts : List Expr} {x1 : Nat} {px pos : Pos} {iter : Expr} {body : List Stmt} {Q : Flow → Shared → Prop} (hA : A.handled = none)
    (h : wpAny (model prog w) A (eval iter env) (fun xv s₁ => ∃ tp items, xv = .ref tp ∧ s₁.heap.IsTuple tp items ∧ ∀ I h', s₁.heap.objs.size ≤ I → (∀ b o, s₁.heap.get? b = some o → h'.get? b = some o) → h'.IsTupleIter I tp 0 → h'.IsTuple tp items →
      ∃ Inv : Nat → Shared → Prop, Inv 0 { s₁ with heap := h' } ∧ (∀ i s', Inv i s' → s'.heap.IsTupleIter I tp i ∧ s'.heap.IsTuple tp items) ∧
      (∀ i v s' h' tk E' (K : Flow → Shared → Prop), (∀ s₃, Inv (i + 1) s₃ → K .next s₃) → items[i]? = some v → Inv i s' → h'.IsTupleIter I tp (i + 1) → h'.IsTuple tp items → (∀ b o, b ≠ I → s'.heap.get? b = some o → h'.get? b = some o) →
        wpAny (model prog w) A (assign (.Tuple elts x1 px) env v) (fun _ s₂ => wpAny (model prog w) A (execs body env) K E' s₂) E' { s' with heap := h', toks := tk }) ∧
      (∀ s' h' tk, Inv items.size s' → (∀ b o, b ≠ I → s'.heap.get? b = some o → h'.get? b = some o) → Q .next { s' with heap := h', toks := tk })) E s)
    (hs : ∀ x, foldedSetIterable iter env x = pure x := by intro _; rfl) :
    wpAny (model prog w) A (exec (.For (.Tuple elts x1 px) iter body [] pos) env) Q E s := by
  refine wpAny_For (wpAny_mono h (fun xv s₁ h₁ => ?_) fun _ _ e => e) hs
  obtain ⟨tp, items, rfl, ht, h₂⟩ := h₁
  have hlt : tp < s₁.heap.objs.size := by obtain ⟨_, e, _⟩ := ht; exact Heap.lt_size e
  have up : ∀ b o, s₁.heap.get? b = some o → (s₁.heap.push { cls := .type "tuple_iterator", data := .fields #[.ref tp, .int 0 0] }).get? b = some o := fun b o e => Heap.get?_push_of_some _ e
  refine wpAny_pyIter_tuple ht ?_
  obtain ⟨Inv, h0, hit, hturn, hdone⟩ := h₂ _ _ (Nat.le_refl _) up ⟨_, Heap.get?_push_size _ rfl, rfl, rfl⟩ (ht.at fun _ e => up _ _ e)
  have W := Walks.tuple (prog := prog) (w := w) (A := A) hA s₁.heap.objs.size tp (Nat.ne_of_lt hlt) items
  refine codeAny_forLoop_any (fun k s' => ∃ i, i ≤ items.size ∧ k = items.size - i ∧ Inv i s') ?_ items.size ⟨0, Nat.zero_le _, rfl, h0⟩
  rintro k s' ⟨i, hi, rfl, hI⟩
  rcases Nat.lt_or_ge i items.size with hl | hge
  · refine W.item i s' _ _ hl (hit i s' hI) fun v h' tk hP hst hk => ?_
    refine letgo_tit hst.1 (wpAny_mono (hturn i v s' h' tk _ (fun f s₃ => match f with
          | .next | .cont => Inv (i + 1) s₃
          | .brk => Q .next s₃
          | .ret v => Q (.ret v) s₃) (fun _ h => h) hP hI hst.1 hst.2 fun b o hb e => hk b o (by simpa using hb) e) (fun _ s₂ h₂ => ?_) fun _ _ e => e)
    refine wpAny_mono h₂ (fun f s₃ h₃ => ?_) fun _ _ e => e
    cases f with
    | next => exact ⟨items.size - (i + 1), by omega, i + 1, hl, rfl, h₃⟩
    | cont => exact ⟨items.size - (i + 1), by omega, i + 1, hl, rfl, h₃⟩
    | brk => exact h₃
    | ret v => exact h₃
  · have e : i = items.size := Nat.le_antisymm hi hge
    subst e
    refine W.done s' _ _ (hit _ s' hI) fun h' tk hk => ?_
    exact wpAny_execs_nil (hdone s' h' tk hI fun b o hb e => hk b o (by simpa using hb) e)
end
end Mine
end
theorem Mine.anewL5 : True := by
  w_top off
  exact trivial
section
open PySem PySem.W PyProof.Rows PySem.Calls
set_option Elab.async false
set_option maxRecDepth 100000
set_option maxHeartbeats 2000000
set_option linter.unusedVariables false
namespace Mine
/-- an object that is a list of these values -/
def LObj (o : Obj) (vs : List Value) : Prop := o.cls = .type "list" ∧ ∃ n, o.data = .seq vs.toArray n
theorem LObj.is {h : Heap} {x : Addr} {o : Obj} {vs : List Value} (l : LObj o vs) (e : h.get? x = some o) : h.IsList x vs.toArray := ⟨o, e, l.1, l.2⟩
theorem LObj.of {vs : List Value} {c : Nat} : LObj (W.listOf vs.toArray c) vs := ⟨rfl, _, rfl⟩
/-- one of the twelve: a tuple of the ledger, with its lists, that the law's question may be put to -/
inductive Row (prog : Program) (w : World) (rows : List (Addr × Obj)) : Value → Prop
  | wt {T x y : Addr} {ox oy : Obj} {c : Nat} {vs ws : List Value} {ys : List Nm} {num : Nm} {o u : Int} {t1 t2 : Tok} :
      (T, ({ cls := .type "tuple", data := .seq #[.ref x, .ref y, .int o t1, .int u t2] c } : Obj)) ∈ rows → (x, ox) ∈ rows → LObj ox vs → (y, oy) ∈ rows → LObj oy ws →
      SumP prog w vs ws num → num.fits → NmsAre ws ys → (∀ a ∈ ys, a.fits) → vs.length ≤ 1000 → ws.length ≤ 1000 → fsumOk [] (ys.map Nm.real) → AskW vs ws num ys o u → Row prog w rows (.ref T)
  | no {T x : Addr} {ox : Obj} {c : Nat} {vs : List Value} {xs : List Nm} {o u : Int} {t1 t2 : Tok} :
      (T, ({ cls := .type "tuple", data := .seq #[.ref x, .none, .int o t1, .int u t2] c } : Obj)) ∈ rows → (x, ox) ∈ rows → LObj ox vs →
      NmsAre vs xs → (∀ a ∈ xs, a.fits) → xs.length ≤ 1000 → fsumOk [] (xs.map Nm.real) → AskN vs xs o u → Row prog w rows (.ref T)

def RInv5 (base : Heap) (s : Shared) (g : Heap) (L' tp : Addr) (its : Array Value) (rows : List (Addr × Obj)) (J : Addr) (i : Nat) (s' : Shared) : Prop :=
  s'.drawn = s.drawn ∧ s'.os = s.os ∧ GBare s.gens s'.gens ∧ TabN s'.heap ∧ s'.heap.IsTupleIter J tp i ∧ s'.heap.IsTuple tp its ∧ ∃ g1 m, KtsTurn (frs []) g g1 ∧ Below callerA base [] g1 ∧ Fr g1 L' s'.heap m ∧ News g1 L' s'.heap rows ∧
    g1.get? J = none ∧ J ≠ L' ∧ g1.get? tp = none ∧ tp ≠ L' ∧ (∀ q ∈ rows, q.1 ≠ J)

theorem law5 {w : World} {p : Program} {loose : List Str} {mean : ExcName → Option Value} {mg mb : Str → Option Value} {base g : Heap} {s : Shared} {Q1 : Flow → Shared → Prop} {E1 : Value → Shared → Prop} {L' : Addr} {S : Scope} {elts : List Expr} {x1 : Nat} {px : Pos} {iter : Expr} {body : List Stmt} {pos : Pos}
   (eS : S = defS 8) (eb : ∃ iter0, Stmt.For (.Tuple elts x1 px) iter0 body [] pos = defB 8 10)
   (X : (hd2.heap_39 w.params).In base) (T : Top p loose mean mg mb base) (C58 : CodeHd base 62 58) (h58 : base.get? 58 = none) (h58L : 58 ≠ L')
   (B : Below callerA base [] g) (hg58 : g.get? 58 = none)
   (hs : ∀ x, foldedSetIterable iter (envOf "law" S L' 89 (.ref 88)) x = pure x)
   (hiter : wpAny (model PySem.Challenge.rw_kp0013_02.row.prog w) (callerA.deeper (envOf "law" S L' 89 (.ref 88))) (eval iter (envOf "law" S L' 89 (.ref 88)))
     (fun xv s₁ => ∃ tp m1 rows items, xv = .ref tp ∧ (∀ v ∈ items, Row PySem.Challenge.rw_kp0013_02.row.prog w rows v) ∧ (∀ q ∈ rows, q.2.cls ≠ .none) ∧ s₁.heap.IsTuple tp items ∧ g.get? tp = none ∧ tp ≠ L' ∧ Fr g L' s₁.heap m1 ∧ News g L' s₁.heap rows ∧ TabN s₁.heap ∧ s₁.gens = s.gens ∧ s₁.drawn = s.drawn ∧ s₁.os = s.os) E1 s)
   (fin : ∀ s' g1 m, KtsTurn (frs []) g g1 → Below callerA base [] g1 → Fr g1 L' s'.heap m → TabN s'.heap → GBare s.gens s'.gens → s'.drawn = s.drawn → s'.os = s.os → Q1 .next s') :
   wpAny (model PySem.Challenge.rw_kp0013_02.row.prog w) (callerA.deeper (envOf "law" S L' 89 (.ref 88))) (exec (.For (.Tuple elts x1 px) iter body [] pos) (envOf "law" S L' 89 (.ref 88))) Q1 E1 s := by
  have X0 := X
  revert X; k_fill; intro X
  obtain ⟨iter0, eb⟩ := eb
  conv at eS => rhs; whnf
  conv at eb => rhs; whnf
  subst eS
  injection eb with e1 e2 e3 e4 e5
  injection e1 with e6 e7 e8
  subst e3 e5 e6 e7 e8
  refine for_tup4 rfl ?_ hs
  refine wpAny_mono hiter (fun xv s₁ h₁ => ?_) fun _ _ e => e
  obtain ⟨tp, m1, rows, items, rfl, hR, hrows, htp, tp1, tp2, F, N, hT1, g1, d1, o1⟩ := h₁
  refine ⟨tp, items, rfl, htp, ?_⟩
  intro J h11 hJ k11 hJit hJt
  have hT11 : TabN h11 := tab_mono hT1 (fun ps e => k11 _ _ e) fun c oc vs t e d _ => ⟨oc, k11 _ _ e, d⟩
  obtain ⟨hJL, hJg⟩ : J ≠ L' ∧ g.get? J = none := ⟨fun q => Nat.lt_irrefl _ (Nat.lt_of_lt_of_le F.ns.lt (q ▸ hJ)), Heap.get?_none_of_le (Nat.le_trans F.above (Nat.le_trans (Nat.le_of_lt F.ns.lt) hJ))⟩
  refine ⟨RInv5 base s g L' tp items rows J, ?start, fun i s' h => ⟨h.2.2.2.2.1, h.2.2.2.2.2.1⟩, ?turn, ?done⟩
  case start => exact ⟨d1, o1, by rw [g1]; exact fun z => z, hT11, hJit, hJt, g, _, KtsTurn.refl, B, frKeep F k11, newsKeep N k11, hJg, hJL, tp1, tp2, fun q hq e => Nat.lt_irrefl _ (Nat.lt_of_lt_of_le (Heap.lt_size (N q hq).1) (e ▸ hJ))⟩
  case done =>
    clear F N k11 hJit hJt hT11 hJL hJg
    intro s' h' tk' hInv hk'
    obtain ⟨dr, os, gb, hT5, hit, htp, g2, m, TT, B1, F, N, j1, j2, j3, j4, j5⟩ := hInv
    exact fin _ g2 m TT B1 (frBut (P := [J]) F (fun b o hb e => hk' b o (by simpa using hb) e) (by simpa using Ne.symm j2) (fun b hb => by rw [List.mem_singleton.mp hb]; exact j1)) (tab_tit hit hk' hT5) gb dr os
  case turn =>
    clear F N k11 hJit hJt hT11 hJL hJg
    intro j vv s' h' tk' E' K hKn hj hInv hit' htp' hk'
    obtain ⟨dr, os, gb, hT5, hit, htp, g2, m, TT, B1, F, N, j1, j2, j3, j4, j5⟩ := hInv
    obtain ⟨s'h, s'g, s'd, s't, s'o⟩ := s'
    dsimp only at *
    subst dr os
    have F1 : Fr g2 L' h' m := frBut (P := [J]) F (fun b o hb e => hk' b o (by simpa using hb) e) (by simpa using Ne.symm j2) (fun b hb => by rw [List.mem_singleton.mp hb]; exact j1)
    have hT6 := tab_tit hit hk' hT5
    have hg2 := TT.none_ _ hg58
    obtain ⟨more, Nm, htm⟩ := tab_more F1 hg2 hT6
    obtain ⟨oJ, hoJ, hcJ, hdJ⟩ := id hit'
    obtain ⟨ot, hot, htc, nt, hdt⟩ := id htp'
    have Nr : News g2 L' h' rows := newsBut (P := [J]) N (fun b o hb e => hk' b o (by simpa using hb) e) (fun q hq => by simpa using j5 q hq)
    have Xg := X.keeps B1.stays
    have Tg := T.keeps B1.stays
    clear F N hk' hit htp hT5
    have row := hR vv (Array.mem_of_getElem? hj)
    clear hj
    cases row with
    | @wt TT0 x y ox oy c vs ws ys num o u t1 t2 hT hx lx hy ly hS hnum hN hfit hv hw hok H =>
      have nT := Nr _ hT
      have N1 := newsAdd (newsAdd (newsAdd (news_app Nr Nm) hot j4 j3) hoJ j2 j1) nT.1 nT.2.1 nT.2.2
      clear Nr Nm nT
      dsimp only at N1
      (repeat' ((fail_if_success (with_reducible first | show wpAny _ _ (call (Value.ref _) _) _ _ _ | show wpAny _ _ (exec (Stmt.For _ _ _ _ _) _) _ _ _ | show _ ∧ _ | show ∃ _, _ | show RInv5 _ _ _ _ _ _ _ _)); first | (exfalso; omega) | (k_unfold; (try dsimp only)) | walk1 | (dsimp only; walk1) | (leave1; walk_say "STEP leave1"; try dsimp only)))
      rename Fr _ _ _ _ => F
      rename News _ _ _ _ => N
      rename_i h5
      have hT7 : TabN h5 := htm _ F.keep fun q hq => (N q (by first | ((repeat (first | exact hq | exact List.mem_cons_self | apply List.mem_cons_of_mem)); done) | simp [hq])).1
      have Nrow : News g2 L' h5 rows := newsSub N fun q hq => by simp [hq]
      have nJ := N (J, oJ) (by first | ((repeat (first | exact List.mem_cons_self | apply List.mem_cons_of_mem)); done) | simp)
      have ntp := N (tp, ot) (by first | ((repeat (first | exact List.mem_cons_self | apply List.mem_cons_of_mem)); done) | simp)
      refine ⟨Xg.keeps F.keep, ?_⟩
      refine right_w (pushX B1 F rfl rfl) ?hmc X0 T hT7 (lx.is (Nrow _ hx).1) (ly.is (Nrow _ hy).1) hS hnum hN hfit (by rw [← hN.1]; exact Nat.lt_of_le_of_lt hw (by decide)) (Nat.le_trans hv (by decide)) hv hw hok H ?ro ?ru ?res
      case hmc =>
        intro b hb
        rw [List.mem_singleton.mp hb]
        refine ⟨h58, fun q => ?_⟩
        rcases List.mem_cons.mp q with q | q
        · exact h58L q
        · cases q
      case ro => decide
      case ru => decide
      intro s9 C hT9 gb9 d9 o9
      obtain ⟨h9, g9, dd9, tk9, os9⟩ := s9
      dsimp only at C hT9 gb9 d9 o9
      subst d9 o9
      obtain ⟨g3, TT3, F3, B3⟩ := ground_turn B1 F C (fun b hb => by rw [List.mem_singleton.mp hb]; exact hg2) (fun q => h58L (List.mem_singleton.mp q).symm)
      have N3 := news_turn TT3 C Nrow fun q hq => ⟨fun hm => off58 hT7 (Nrow q hq).1 (hrows q hq) (List.mem_singleton.mp hm), nofun⟩
      have NJ := news_turn TT3 C (newsSub (l := [(J, oJ), (tp, ot)]) N (by
        intro q hq
        simp only [List.mem_cons, List.not_mem_nil, or_false] at hq
        rcases hq with rfl | rfl <;> simp)) (fun q hq => ⟨fun hm => off58 hT7 (h := h5) (q := q) (by
          simp only [List.mem_cons, List.not_mem_nil, or_false] at hq
          rcases hq with rfl | rfl
          · exact nJ.1
          · exact ntp.1) (by
          simp only [List.mem_cons, List.not_mem_nil, or_false] at hq
          rcases hq with rfl | rfl
          · show oJ.cls ≠ _; rw [hcJ]; nofun
          · show ot.cls ≠ _; rw [htc]; nofun) (List.mem_singleton.mp hm), nofun⟩)
      clear N F
      have nJ3 := NJ (J, oJ) (by first | ((repeat (first | exact List.mem_cons_self | apply List.mem_cons_of_mem)); done) | simp)
      have nt3 := NJ (tp, ot) (by first | ((repeat (first | exact List.mem_cons_self | apply List.mem_cons_of_mem)); done) | simp)
      (repeat' ((fail_if_success (with_reducible first | show wpAny _ _ (call (Value.ref _) _) _ _ _ | show wpAny _ _ (exec (Stmt.For _ _ _ _ _) _) _ _ _ | show _ ∧ _ | show ∃ _, _ | show RInv5 _ _ _ _ _ _ _ _)); first | (exfalso; omega) | (k_unfold; (try dsimp only)) | walk1 | (dsimp only; walk1) | (leave1; walk_say "STEP leave1"; try dsimp only)))
      exact hKn _ ⟨rfl, rfl, fun z => gb9 (gb z), hT9, ⟨_, nJ3.1, hcJ, hdJ⟩, ⟨_, nt3.1, htc, _, hdt⟩, g3, _, TT.trans TT3, B3, F3, N3, nJ3.2.2, nJ3.2.1, nt3.2.2, nt3.2.1, j5⟩
    | @no TT0 x ox c vs xs o u t1 t2 hT hx lx hN hfit hlen hok H =>
      have nT := Nr _ hT
      have N1 := newsAdd (newsAdd (newsAdd (news_app Nr Nm) hot j4 j3) hoJ j2 j1) nT.1 nT.2.1 nT.2.2
      clear Nr Nm nT
      dsimp only at N1
      (repeat' ((fail_if_success (with_reducible first | show wpAny _ _ (call (Value.ref _) _) _ _ _ | show wpAny _ _ (exec (Stmt.For _ _ _ _ _) _) _ _ _ | show _ ∧ _ | show ∃ _, _ | show RInv5 _ _ _ _ _ _ _ _)); first | (exfalso; omega) | (k_unfold; (try dsimp only)) | walk1 | (dsimp only; walk1) | (leave1; walk_say "STEP leave1"; try dsimp only)))
      rename Fr _ _ _ _ => F
      rename News _ _ _ _ => N
      rename_i h5
      have hT7 : TabN h5 := htm _ F.keep fun q hq => (N q (by first | ((repeat (first | exact hq | exact List.mem_cons_self | apply List.mem_cons_of_mem)); done) | simp [hq])).1
      have Nrow : News g2 L' h5 rows := newsSub N fun q hq => by simp [hq]
      have nJ := N (J, oJ) (by first | ((repeat (first | exact List.mem_cons_self | apply List.mem_cons_of_mem)); done) | simp)
      have ntp := N (tp, ot) (by first | ((repeat (first | exact List.mem_cons_self | apply List.mem_cons_of_mem)); done) | simp)
      refine ⟨Xg.keeps F.keep, ?_⟩
      refine right_n (pushX B1 F rfl rfl) ?hmc2 X0 T hT7 C58 (lx.is (Nrow _ hx).1) hN hfit hlen hok H ?ro2 ?ru2 ?res2
      case hmc2 =>
        intro b hb
        rw [List.mem_singleton.mp hb]
        refine ⟨h58, fun q => ?_⟩
        rcases List.mem_cons.mp q with q | q
        · exact h58L q
        · cases q
      case ro2 => decide
      case ru2 => decide
      intro s9 C hT9 gb9 d9 o9
      obtain ⟨h9, g9, dd9, tk9, os9⟩ := s9
      dsimp only at C hT9 gb9 d9 o9
      subst d9 o9
      obtain ⟨g3, TT3, F3, B3⟩ := ground_turn B1 F C (fun b hb => by rw [List.mem_singleton.mp hb]; exact hg2) (fun q => h58L (List.mem_singleton.mp q).symm)
      have N3 := news_turn TT3 C Nrow fun q hq => ⟨fun hm => off58 hT7 (Nrow q hq).1 (hrows q hq) (List.mem_singleton.mp hm), nofun⟩
      have NJ := news_turn TT3 C (newsSub (l := [(J, oJ), (tp, ot)]) N (by
        intro q hq
        simp only [List.mem_cons, List.not_mem_nil, or_false] at hq
        rcases hq with rfl | rfl <;> simp)) (fun q hq => ⟨fun hm => off58 hT7 (h := h5) (q := q) (by
          simp only [List.mem_cons, List.not_mem_nil, or_false] at hq
          rcases hq with rfl | rfl
          · exact nJ.1
          · exact ntp.1) (by
          simp only [List.mem_cons, List.not_mem_nil, or_false] at hq
          rcases hq with rfl | rfl
          · show oJ.cls ≠ _; rw [hcJ]; nofun
          · show ot.cls ≠ _; rw [htc]; nofun) (List.mem_singleton.mp hm), nofun⟩)
      clear N F
      have nJ3 := NJ (J, oJ) (by first | ((repeat (first | exact List.mem_cons_self | apply List.mem_cons_of_mem)); done) | simp)
      have nt3 := NJ (tp, ot) (by first | ((repeat (first | exact List.mem_cons_self | apply List.mem_cons_of_mem)); done) | simp)
      (repeat' ((fail_if_success (with_reducible first | show wpAny _ _ (call (Value.ref _) _) _ _ _ | show wpAny _ _ (exec (Stmt.For _ _ _ _ _) _) _ _ _ | show _ ∧ _ | show ∃ _, _ | show RInv5 _ _ _ _ _ _ _ _)); first | (exfalso; omega) | (k_unfold; (try dsimp only)) | walk1 | (dsimp only; walk1) | (leave1; walk_say "STEP leave1"; try dsimp only)))
      exact hKn _ ⟨rfl, rfl, fun z => gb9 (gb z), hT9, ⟨_, nJ3.1, hcJ, hdJ⟩, ⟨_, nt3.1, htc, _, hdt⟩, g3, _, TT.trans TT3, B3, F3, N3, nJ3.2.2, nJ3.2.1, nt3.2.2, nt3.2.1, j5⟩
end Mine
end
theorem Mine.anewLk : True := by
  w_top off
  exact trivial
section
open PySem PySem.W PyProof.Rows PySem.Calls
set_option Elab.async false
set_option maxRecDepth 100000
set_option exponentiation.threshold 3000
set_option linter.unusedVariables false
namespace Mine
open Float64
/-- one, or one less than nought, times a whole number -/
theorem fl_one_mul {prog : Program} {w : World} {A : Around} {E Q : Value → Shared → Prop} {s : Shared} {x : UInt64} {n σ : Int} {t u : Tok} (hA : A.handled = none) (hx : Fl x (σ * 2 ^ 1074)) (hσ : σ.natAbs = 1) (hn : n.natAbs < 2 ^ 1023) (hr : Rep (n.natAbs * 2 ^ 1074))
    (h : ∀ r tk, Fl r (σ * n * 2 ^ 1074) → Q (.float r tk) { s with toks := s.toks + 1 }) : wpAny (model prog w) A (binaryOp .Mult (.float x t) (.int n u)) Q E s := by
  have hlt : (2 : Nat) ^ 1023 ≤ 2 ^ 1024 - 2 ^ 970 := by
    have h1 : (2 : Nat) ^ 1024 = 2 ^ 1023 * 2 := Nat.pow_succ ..
    have h2 : (2 : Nat) ^ 970 ≤ 2 ^ 1023 := Nat.pow_le_pow_right (by decide) (by decide)
    rw [h1]
    generalize (2 : Nat) ^ 1023 = P at *
    generalize (2 : Nat) ^ 970 = R at *
    (clear h1 hn h hr hσ hx hA; grind)
  refine mul_fi_sharp hA (fun q => absurd (Nat.lt_of_lt_of_le hn hlt) (Nat.not_lt.mpr q)) fun _ => h _ _ ?_
  refine fl_mul hx (fl_ofInt n hr) ?_ ?_
  · generalize (2 : Int) ^ 1074 = P
    rw [show σ * P * (n * P) = P * (σ * n * P) by ac_rfl]
  · rw [Int.natAbs_mul, Int.natAbs_mul, hσ, Nat.one_mul, natAbs_pow]; exact hr
theorem fl_one : Fl (0x3ff0000000000000 : UInt64) (1 * 2 ^ 1074) := by
  have e : (0x3ff0000000000000 : UInt64) = ofInt 1 := by decide +kernel
  rw [e]
  exact fl_int (n := 1) (by decide)
theorem pow900 : Rep ((2 ^ 900 : Int).natAbs * 2 ^ 1074) := by
  rw [natAbs_pow, ← Nat.pow_add, ← Nat.one_mul (2 ^ _)]
  exact rep_pow _ 1 (by decide) (by decide)
theorem pow300 : Rep ((2 ^ 300 : Int).natAbs * 2 ^ 1074) := by
  rw [natAbs_pow, ← Nat.pow_add, ← Nat.one_mul (2 ^ _)]
  exact rep_pow _ 1 (by decide) (by decide)
end Mine
end
theorem Mine.anewLi : True := by
  w_top off
  exact trivial
section
open PySem PySem.W PyProof.Rows PySem.Calls
set_option Elab.async false
set_option linter.unusedVariables false
namespace Mine
def GMul (x y v : Value) : Prop := ∃ n k t u tk, x = .int n t ∧ y = .int k u ∧ v = .int (n * k) tk
theorem elt_mul {prog : Program} {w : World} {A : Around} {E : Value → Shared → Prop} {s : Shared} {env : Env} {a b : Str} {p1 p4 p5 : Pos} {scope : Scope} {cl : List (Str × Addr)} {C : Addr} {m₃ : Str → Option Value} {n k : Int} {t u : Tok} {G : Value → Value → Value → Prop}
    (hn : s.heap.Ns C m₃) (ha : m₃ a = some (.int n t)) (hb : m₃ b = some (.int k u)) (ok : IntMulOk n k) (hG : ∀ tk, G (.int n t) (.int k u) (.int (n * k) tk))
    (hkind : scope.kind = .function) (hxa : scope.names.lookup a = some .local) (hxb : scope.names.lookup b = some .local) (hb1 : (a == ("__debug__" : Str)) = false) (hb2 : (b == ("__debug__" : Str)) = false) :
    wpAny (model prog w) A (eval (.BinOp (.Name a p1) .Mult (.Name b p4) p5) (compEnvC scope cl C env)) (fun y s₄ => G (.int n t) (.int k u) y ∧ Keeps s s₄) E s := by
  refine wpAny_BinOp (wpAny_Name (wpAny_loadName_local (by simp [compEnvC, relabel, hkind]) (lookup_relabel_local hxa) hn ha ?_) hb1)
  refine wpAny_Name (wpAny_loadName_local (by simp [compEnvC, relabel, hkind]) (lookup_relabel_local hxb) hn hb ?_) hb2
  refine PyProof.Rows.mul_int ?_ ok
  exact ⟨hG _, _, _, rfl, fun _ _ e => e⟩
theorem zip_keep {h h2 h3 : Heap} {z TO j1 j2 D : Addr} (k2 : ∀ b o, h.get? b = some o → h2.get? b = some o) (z1 : h.objs.size ≤ z) (z2 : h.objs.size ≤ TO) (z3 : h.objs.size ≤ j1) (z4 : h.objs.size ≤ j2)
    (k3 : ∀ b o, b ∉ [z, TO, j1, j2] → h2.get? b = some o → h3.get? b = some o) (nD : h2.get? D = none) : (∀ b o, h.get? b = some o → h3.get? b = some o) ∧ h.get? D = none := by
  refine ⟨fun b o e => k3 b o (fun hb => ?_) (k2 b o e), ?_⟩
  · have lt := Heap.lt_size e
    simp only [List.mem_cons, List.not_mem_nil, or_false] at hb
    rcases hb with rfl | rfl | rfl | rfl
    · exact Nat.lt_irrefl _ (Nat.lt_of_lt_of_le lt z1)
    · exact Nat.lt_irrefl _ (Nat.lt_of_lt_of_le lt z2)
    · exact Nat.lt_irrefl _ (Nat.lt_of_lt_of_le lt z3)
    · exact Nat.lt_irrefl _ (Nat.lt_of_lt_of_le lt z4)
  · cases e : h.get? D with
    | none => rfl
    | some o => rw [k2 _ _ e] at nD; cases nD
theorem ints_zip {xs : List Value} {as : List Int} (ha : IntsAre xs as) : ∀ {ys vs : List Value} {bs : List Int}, IntsAre ys bs → xs.length = ys.length → vs.length = xs.length →
    (∀ (i : Nat) x y, xs[i]? = some x → ys[i]? = some y → ∃ v, vs[i]? = some v ∧ GMul x y v) → IntsAre vs (List.zipWith (· * ·) as bs) := by
  induction ha with
  | nil =>
    intro ys vs bs hb hl hv h
    have : vs = [] := List.eq_nil_of_length_eq_zero hv
    subst this
    exact .nil
  | cons n t h1 ih =>
    intro ys vs bs hb hl hv h
    cases hb with
    | nil => simp at hl
    | cons k u h2 =>
      cases vs with
      | nil => simp at hv
      | cons v vs =>
        obtain ⟨v', hv', n', k', t', u', tk, e1, e2, e3⟩ := h 0 _ _ rfl rfl
        simp at hv'
        subst hv'
        cases e1; cases e2; subst e3
        exact .cons _ _ (ih h2 (by simpa using hl) (by simpa using hv) fun i x y hx hy => by
          obtain ⟨v, hv1, hg⟩ := h (i + 1) x y (by simpa using hx) (by simpa using hy)
          exact ⟨v, by simpa using hv1, hg⟩)
theorem rep_flat {α : Type} (K : Nat) (x : α) : (List.replicate K [x]).flatten = List.replicate K x := by
  induction K with
  | zero => rfl
  | succ k ih => rw [List.replicate_succ, List.flatten_cons, ih, List.replicate_succ]; rfl
end Mine
end
theorem Mine.anewLo : True := by
  w_top off
  exact trivial
section
open PySem PySem.W PySem.Calls PyProof.Rows
set_option Elab.async false
set_option maxRecDepth 100000
set_option exponentiation.threshold 3000
set_option linter.unusedVariables false
namespace Mine
section
variable {prog : Program} {w : World} {A : Around} {E : Value → Shared → Prop} {s : Shared}
theorem lc_map {env : Env} {x : Str} {elt iter : Expr} {px pos : Pos} {scope : Scope} {cl : List (Str × Addr)} {r : Addr} {rv : List Value} {Q : Value → Shared → Prop} (G : Value → Value → Prop)
    (hA : A.handled = none) (hiter : ∀ Q' : Value → Shared → Prop, Q' (.ref r) s → wpAny (model prog w) A (eval iter env) Q' E s) (hr : s.heap.IsList r rv.toArray) (hlen : rv.length ≤ 1000)
    (helt : ∀ C v s₃ m₃ E', v ∈ rv → s₃.heap.Ns C m₃ → m₃ x = some v → (∀ b o, s.heap.get? b = some o → s₃.heap.get? b = some o) →
      wpAny (model prog w) A (eval elt (compEnvC scope cl C env)) (fun y s₄ => G v y ∧ Keeps s₃ s₄) E' s₃)
    (h : ∀ D h' tk ys, (∀ b o, s.heap.get? b = some o → h'.get? b = some o) → s.heap.get? D = none → h'.IsList D ys.toArray → Paired G rv ys → Q (.ref D) { s with heap := h', toks := tk })
    (hclos : closureFor scope env = pure cl := by rfl) (hcell : ∀ y ∈ scope.names, y.2 ≠ .cell := by decide) (hkind : scope.kind = .function := by rfl)
    (hnames : ∀ y ∈ scope.names, y.2 = .local → scope.names.lookup y.1 = some .local := by decide) (hx : scope.names.lookup x = some .local := by rfl)
    (hs : ∀ x, foldedSetIterable iter env x = pure x := by intro _; rfl) :
    wpAny (model prog w) A (eval (.ListComp elt [⟨.Name x px, iter, [], 0⟩] scope pos) env) Q E s := by
  have hlt : r < s.heap.objs.size := by obtain ⟨_, e, _⟩ := hr; exact Heap.lt_size e
  refine wpAny_ListComp_free (fun _ => true) G hclos hcell hkind hnames hx (hiter _ (wpAny_pyIter_list hr ?_)) hs
  have up : ∀ b o, s.heap.get? b = some o → (s.heap.push { cls := .type "list_iterator", data := .fields #[.ref r, .int 0 0] }).get? b = some o := fun b o e => Heap.get?_push_of_some _ e
  refine ⟨_, [s.heap.objs.size, r], [s.heap.objs.size], rv.toArray.size, _, _, rfl, Walks.list hA s.heap.objs.size r (Nat.ne_of_lt hlt) rv.toArray, ?_, ⟨⟨_, Heap.get?_push_size _ rfl, rfl, rfl⟩, hr.push _⟩, ?_, ⟨?_, ?_⟩, ?_⟩
  · refine Nat.le_trans (?_ : rv.toArray.size ≤ 1000) (by decide)
    simp only [List.size_toArray]; omega
  · intro b hb
    show b < (s.heap.push _).objs.size
    rw [Heap.size_push]
    rcases List.mem_cons.mp hb with rfl | hb
    · exact Nat.lt_succ_self _
    · rw [List.mem_singleton.mp hb]; exact Nat.lt_succ_of_lt hlt
  · intro C i v s₃ m₃ E' hC hP hn hm hk ht
    exact wpAny_tests_nil ⟨rfl, ⟨_, _, rfl, fun _ _ e => e⟩⟩
  · intro C i v s₃ m₃ E' hC hP _ hn hm hk ht
    have hv : v ∈ rv := List.mem_of_getElem? (i := i) (by simpa using hP)
    have old : ∀ b o, s.heap.get? b = some o → s₃.heap.get? b = some o := fun b o e => hk b o (fun q => by
      rw [List.mem_singleton.mp q] at e
      exact Nat.lt_irrefl _ (Heap.lt_size e)) (up b o e)
    exact helt C v s₃ m₃ _ hv hn hm old
  · intro D h' tk ys vs' hD hy _ hvl' hP hF hk
    have e : vs' = rv := by
      apply List.ext_getElem?
      intro j
      cases hj : vs'[j]? with
      | none =>
        have : vs'.length ≤ j := List.getElem?_eq_none_iff.mp hj
        exact (List.getElem?_eq_none_iff.mpr (by simp at hvl'; omega)).symm
      | some v => exact (by simpa using (hP j v hj).symm)
    subst e
    rw [show vs'.filter (fun _ => true) = vs' from by simp] at hF
    refine h D h' tk ys.toList (fun b o e => hk b o (fun q => by
      rw [List.mem_singleton.mp q] at e
      exact Nat.lt_irrefl _ (Heap.lt_size e)) (up b o e)) ?_ (by simpa using hy) hF
    cases z : s.heap.get? D with
    | none => rfl
    | some o => rw [up _ _ z] at hD; cases hD

/-- an item over a power of two -/
theorem elt_div {env : Env} {x : Str} {p1 p2 p3 : Pos} {kc : Nat} {scope : Scope} {cl : List (Str × Addr)} {C : Addr} {m₃ : Str → Option Value} {n d : Int} {k : Nat} {t : Tok} {G : Value → Value → Prop} (hA : A.handled = none)
    (hn : s.heap.Ns C m₃) (hm : m₃ x = some (.int n t)) (hd : d = 2 ^ k) (hk : k ≤ 1074) (hb : n.natAbs < 2 ^ 1022) (hr : Rep (n * 2 ^ (1074 - k)).natAbs)
    (hG : ∀ r tk, Fl r (n * 2 ^ (1074 - k)) → G (.int n t) (.float r tk))
    (hkind : scope.kind = .function) (hx : scope.names.lookup x = some .local) (hb1 : (x == ("__debug__" : Str)) = false) :
    wpAny (model prog w) A (eval (.BinOp (.Name x p1) .Div (.Constant (.int d) kc p2) p3) (compEnvC scope cl C env)) (fun y s₄ => G (.int n t) y ∧ Keeps s s₄) E s := by
  subst hd
  refine wpAny_BinOp (wpAny_Name (wpAny_loadName_local (by simp [compEnvC, relabel, hkind]) (lookup_relabel_local hx) hn hm (wpAny_Constant_int ?_)) hb1)
  exact fl_div_ii hA hk hb hr fun r tk hf => ⟨hG r _ hf, _, _, rfl, fun _ _ e => e⟩
/-- one, times an item -/
theorem elt_onemul {env : Env} {x : Str} {p1 p2 p3 : Pos} {kc : Nat} {f : UInt64} {scope : Scope} {cl : List (Str × Addr)} {C : Addr} {m₃ : Str → Option Value} {n : Int} {t : Tok} {G : Value → Value → Prop} (hA : A.handled = none)
    (hf : Fl f (1 * 2 ^ 1074)) (hn : s.heap.Ns C m₃) (hm : m₃ x = some (.int n t)) (hb : n.natAbs < 2 ^ 1023) (hr : Rep (n.natAbs * 2 ^ 1074))
    (hG : ∀ r tk, Fl r (1 * n * 2 ^ 1074) → G (.int n t) (.float r tk))
    (hkind : scope.kind = .function) (hx : scope.names.lookup x = some .local) (hb1 : (x == ("__debug__" : Str)) = false) :
    wpAny (model prog w) A (eval (.BinOp (.Constant (.float f) kc p2) .Mult (.Name x p1) p3) (compEnvC scope cl C env)) (fun y s₄ => G (.int n t) y ∧ Keeps s s₄) E s := by
  refine wpAny_BinOp (wpAny_Constant_float ?_)
  refine wpAny_Name (wpAny_loadName_local (by simp [compEnvC, relabel, hkind]) (lookup_relabel_local hx) hn hm ?_) hb1
  exact fl_one_mul hA hf (by decide) hb hr fun r tk hf => ⟨hG r _ hf, _, _, rfl, fun _ _ e => e⟩
end
end Mine
end
theorem Mine.anewLj : True := by
  w_top off
  exact trivial
section
open PySem PySem.W PySem.Calls PyProof.Rows
set_option Elab.async false
set_option maxRecDepth 100000
set_option linter.unusedVariables false
namespace Mine
open Builtin Builtin.List
theorem ia_fill : fillsInplaceSlot (.type "list") "add" (Operator.Add == .Add) = pure false := by
  unfold fillsInplaceSlot
  show (typeLookup (.type "list") (dunderI "add") >>= fun fi => pure (fi.isSome && !isSeqSlot fi)) = pure false
  rw [F.slot_list_iadd.lookup]
  kernel_rfl
theorem ia_seq : seqSlot? (.type "list") (dunderI "add") = pure (some (.builtin "list.__iadd__")) := by
  unfold seqSlot?
  rw [F.slot_list_iadd.lookup]
  kernel_rfl
theorem ia_nofill : fillsNumberSlot (.type "list") "add" = pure false := by
  first
  | kernel_rfl
  | (unfold fillsNumberSlot; kernel_rfl)
theorem iadd_list {prog : Program} {w : World} {A : Around} {E Q : Value → Shared → Prop} {s : Shared} {l b : Addr} {xs ys : Array Value} {n : Nat} (hl : s.heap.get? l = some { cls := .type "list", data := .seq xs n }) (hb : s.heap.IsList b ys) (hne : l ≠ b)
    (hsz : xs.size + ys.size ≤ 1000) (h : ∀ h' n', Heap.SameBut l s.heap h' → h'.get? l = some { cls := .type "list", data := .seq (xs ++ ys) n' } → Q (.ref l) { s with heap := h' }) :
    wpAny (model prog w) A (inplaceOp .Add (.ref l) (.ref b)) Q E s := by
  obtain ⟨ob, hob, hcb, nb, hdb⟩ := hb
  have ha : s.TypeIs (.ref l) "list" := ⟨_, hl, rfl⟩
  have hbt : s.TypeIs (.ref b) "list" := ⟨_, hob, hcb⟩
  unfold inplaceOp
  refine wpAny_holding ?_
  refine wpAny_bind (wpAny_typeOf ha (wpAny_bind (wpAny_of_eq ia_fill ?_)))
  show wpAny _ A (if false = true then _ else _) Q E s
  rw [if_neg Bool.false_ne_true]
  refine wpAny_bind (wpAny_binaryOp1_none (nm := "add") ha hbt ia_nofill ?_)
  refine wpAny_bind (wpAny_of_eq ia_seq ?_)
  refine wpAny_bind (wpAny_rule ?_)
  refine wpAny_call_entry F.slot_list_iadd ha F.entry_list_iadd ?_ (by first | exact F.args_list_iadd_2 _ _ | (unfold argsOk; kernel_rfl))
  show wpAny _ _ (listExtendWith (.ref l) (.ref b) (.ref l)) _ _ s
  unfold listExtendWith
  refine wpAny_bind (wpAny_typeOf hbt ?_)
  rw [if_pos (by simp)]
  refine wpAny_bind (wpAny_listItems hob hdb ?_)
  refine wpAny_bind (wpAny_listItems hl rfl ?_)
  dsimp only
  rw [if_neg (by simp [listTooLong, sizeLine]; omega)]
  show wpAny _ _ (updateSeq l (· ++ ys) >>= fun _ => ret (.ref l)) _ _ s
  have big : (1000 : Nat) ≤ sizeLine := by decide
  have z1 : xs.size ≤ sizeLine := by omega
  have z2 : (xs ++ ys).size ≤ sizeLine + 1 := by simp; omega
  refine wpAny_bind (wpAny_updateSeq hl rfl ?_ z1 z2)
  have hm : ∃ n', Obj.mapSeq (fun x => x ++ ys) { cls := Value.type "list", data := Data.seq xs n } = { cls := Value.type "list", data := Data.seq (xs ++ ys) n' } := ⟨_, rfl⟩
  obtain ⟨n', hm⟩ := hm
  refine wpAny_pure ⟨_, rfl, h _ n' (Heap.SameBut.update ..) ?_⟩
  rw [Heap.get?_update_self _ hl (by rw [hm]; rfl), hm]
end Mine
end
theorem Mine.anewT0 : True := by
  w_top off
  exact trivial
section
open PySem PySem.W PyProof.Rows PySem.Calls
set_option Elab.async false
set_option maxRecDepth 100000
set_option maxHeartbeats 2000000
set_option linter.unusedVariables false
namespace Mine
/-- the twelve tuples of the law -/
def tupEs : List Expr := match defB 8 10 with
  | .For _ (.Tuple es _ _) _ _ _ => es
  | _ => []
def eltE (k : Nat) : Expr := match List.drop k tupEs with
  | e :: _ => e
  | [] => .Name "script" ⟨0, 0, 0, 0⟩

/-- a tuple of the ledger with two lists and two whole numbers -/
def HasW (rows : List (Addr × Obj)) (v : Value) (P : List Value → List Value → Int → Int → Prop) : Prop :=
  ∃ (T x y : Addr) (ox oy : Obj) (c : Nat) (vs ws : List Value) (o u : Int) (t1 t2 : Tok), v = .ref T ∧ (T, ({ cls := .type "tuple", data := .seq #[.ref x, .ref y, .int o t1, .int u t2] c } : Obj)) ∈ rows ∧
    (x, ox) ∈ rows ∧ LObj ox vs ∧ (y, oy) ∈ rows ∧ LObj oy ws ∧ P vs ws o u
def HasN (rows : List (Addr × Obj)) (v : Value) (P : List Value → Int → Int → Prop) : Prop :=
  ∃ (T x : Addr) (ox : Obj) (c : Nat) (vs : List Value) (o u : Int) (t1 t2 : Tok), v = .ref T ∧ (T, ({ cls := .type "tuple", data := .seq #[.ref x, .none, .int o t1, .int u t2] c } : Obj)) ∈ rows ∧
    (x, ox) ∈ rows ∧ LObj ox vs ∧ P vs o u
/-- what the law's names hold when the twelve tuples are made -/
structure LawM (m : Str → Option Value) (a2 a3 a4 a5 a6 : Addr) (ov un pt bg wh us : Int) (u1 u2 u3 u4 u5 u6 : Tok) : Prop where
  data : m "data" = some (.ref a2)
  great : m "great" = some (.ref a3)
  weights : m "weights" = some (.ref a4)
  floats : m "floats" = some (.ref a5)
  far : m "far" = some (.ref a6)
  over : m "over" = some (.int ov u1)
  under : m "under" = some (.int un u2)
  point : m "point" = some (.int pt u3)
  big : m "big" = some (.int bg u4)
  whole : m "whole" = some (.int wh u5)
  units : m "units" = some (.int us u6)

theorem pin11 {m : Str → Option Value} {k1 k2 k3 k4 k5 k6 k7 k8 k9 k10 k11 : Str} {x1 x2 x3 x4 x5 x6 x7 x8 x9 x10 x11 : Value} (h1 : m k1 = some x1) (h2 : m k2 = some x2) (h3 : m k3 = some x3) (h4 : m k4 = some x4) (h5 : m k5 = some x5) (h6 : m k6 = some x6) (h7 : m k7 = some x7) (h8 : m k8 = some x8) (h9 : m k9 = some x9) (h10 : m k10 = some x10) (h11 : m k11 = some x11) :
    m = fun q => if q = k1 then some x1 else if q = k2 then some x2 else if q = k3 then some x3 else if q = k4 then some x4 else if q = k5 then some x5 else if q = k6 then some x6 else if q = k7 then some x7 else if q = k8 then some x8 else if q = k9 then some x9 else if q = k10 then some x10 else if q = k11 then some x11 else m q := by
  funext q
  by_cases e1 : q = k1
  · rw [if_pos e1, e1, h1]
  rw [if_neg e1]
  by_cases e2 : q = k2
  · rw [if_pos e2, e2, h2]
  rw [if_neg e2]
  by_cases e3 : q = k3
  · rw [if_pos e3, e3, h3]
  rw [if_neg e3]
  by_cases e4 : q = k4
  · rw [if_pos e4, e4, h4]
  rw [if_neg e4]
  by_cases e5 : q = k5
  · rw [if_pos e5, e5, h5]
  rw [if_neg e5]
  by_cases e6 : q = k6
  · rw [if_pos e6, e6, h6]
  rw [if_neg e6]
  by_cases e7 : q = k7
  · rw [if_pos e7, e7, h7]
  rw [if_neg e7]
  by_cases e8 : q = k8
  · rw [if_pos e8, e8, h8]
  rw [if_neg e8]
  by_cases e9 : q = k9
  · rw [if_pos e9, e9, h9]
  rw [if_neg e9]
  by_cases e10 : q = k10
  · rw [if_pos e10, e10, h10]
  rw [if_neg e10]
  by_cases e11 : q = k11
  · rw [if_pos e11, e11, h11]
  rw [if_neg e11]
theorem LawM.pin {m : Str → Option Value} {a2 a3 a4 a5 a6 : Addr} {ov un pt bg wh us : Int} {u1 u2 u3 u4 u5 u6 : Tok} (M : LawM m a2 a3 a4 a5 a6 ov un pt bg wh us u1 u2 u3 u4 u5 u6) :
    m = fun (q : Str) => if q = "data" then some (.ref a2) else if q = "great" then some (.ref a3) else if q = "weights" then some (.ref a4) else if q = "floats" then some (.ref a5) else if q = "far" then some (.ref a6) else if q = "over" then some (.int ov u1) else if q = "under" then some (.int un u2) else if q = "point" then some (.int pt u3) else if q = "big" then some (.int bg u4) else if q = "whole" then some (.int wh u5) else if q = "units" then some (.int us u6) else m q :=
  pin11 M.data M.great M.weights M.floats M.far M.over M.under M.point M.big M.whole M.units
def GDiv (k : Nat) (v r : Value) : Prop := ∃ n t x tk, v = .int n t ∧ r = .float x tk ∧ Fl x (n * 2 ^ (1074 - k))
def GOne (v r : Value) : Prop := ∃ n t x tk, v = .int n t ∧ r = .float x tk ∧ Fl x (1 * n * 2 ^ 1074)
theorem rep_small {n : Int} {b k : Nat} (h : n.natAbs < 2 ^ b) (hb : b ≤ 53) (hk : k ≤ 1074) : Rep (n * 2 ^ (1074 - k)).natAbs := by
  rw [Int.natAbs_mul, natAbs_pow]
  exact rep_pow _ _ (Nat.le_of_lt (Nat.lt_of_lt_of_le h (Nat.pow_le_pow_right (by decide) hb))) (by omega)
theorem rep_big {e : Nat} (he : e < 1000) : Rep ((2 ^ e : Int).natAbs * 2 ^ 1074) := by
  have h : (2 ^ e : Int).natAbs * 2 ^ 1074 = 2 ^ 30 * 2 ^ (e + 1044) := by
    rw [natAbs_pow, ← Nat.pow_add, ← Nat.pow_add]; congr 1; omega
  rw [h]
  exact rep_pow _ _ (by decide) (by omega)
theorem add_L {prog : Program} {w : World} {A : Around} {E Q : Value → Shared → Prop} {s : Shared} {g : Heap} {L : Addr} {m : Str → Option Value} {news : List (Addr × Obj)} {l b : Addr} {xs ys : List Value} {o1 o2 : Obj}
    (F : Fr g L s.heap m) (N : News g L s.heap news) (ha : (l, o1) ∈ news) (la : LObj o1 xs) (hb : (b, o2) ∈ news) (lb : LObj o2 ys) (hsz : xs.length + ys.length ≤ 1000)
    (h : ∀ D h', Fr g L h' m → News g L h' ((D, W.listOf (xs ++ ys).toArray 0) :: news) → Q (.ref D) { s with heap := h' }) :
    wpAny (model prog w) A (binaryOp .Add (.ref l) (.ref b)) Q E s :=
  add_lists F N (la.is (N _ ha).1) (lb.is (N _ hb).1) (fun h' F' N' => h _ h' F' N') (Nat.le_trans hsz (by decide))
/-- what a list comprehension has made, put onto the ledger -/
theorem new_L {g h h' : Heap} {L D : Addr} {m : Str → Option Value} {news : List (Addr × Obj)} {ys : List Value} (F : Fr g L h m) (N : News g L h news) (k : ∀ b o, h.get? b = some o → h'.get? b = some o) (nD : h.get? D = none) (hD : h'.IsList D ys.toArray) :
    Fr g L h' m ∧ ∃ o, News g L h' ((D, o) :: news) ∧ LObj o ys := by
  obtain ⟨o, N1, c, d⟩ := newList_add2 F nD (newsKeep N k) hD
  exact ⟨frKeep F k, o, N1, c, d⟩
end Mine
end
theorem Mine.anewRw0 : True := by
  w_top off
  exact trivial
section
open PySem PySem.W PyProof.Rows PySem.Calls
set_option Elab.async false
set_option maxRecDepth 100000
set_option exponentiation.threshold 3000
set_option linter.unusedVariables false
namespace Mine
def RowW (prog : Program) (w : World) (vs ws : List Value) (o u : Int) : Prop := ∃ ys num, SumP prog w vs ws num ∧ num.fits ∧ NmsAre ws ys ∧ (∀ a ∈ ys, a.fits) ∧ vs.length ≤ 1000 ∧ ws.length ≤ 1000 ∧ fsumOk [] (ys.map Nm.real) ∧ AskW vs ws num ys o u
def RowN (vs : List Value) (o u : Int) : Prop := ∃ xs, NmsAre vs xs ∧ (∀ a ∈ xs, a.fits) ∧ xs.length ≤ 1000 ∧ fsumOk [] (xs.map Nm.real) ∧ AskN vs xs o u
/-- what the law asks of each of its twelve tuples, by numbers alone -/
structure Rows12 (prog : Program) (w : World) (v2 v3 v4 : List Value) (sc dat gr wt : List Int) : Prop where
  r1 : ∀ vs ws o u, (fun vs ws o u => vs = v2 ∧ ws = v4 ∧ o = (List.zipWith (· * ·) dat wt).sum ∧ u = wt.sum) vs ws o u → RowW prog w vs ws o u
  r2 : ∀ vs ws o u, (fun vs ws o u => (∃ t t', vs = [.int dat.sum t] ++ v2 ++ [.int dat.sum t']) ∧ (∃ t t', ws = [.int (2 ^ (sc.sum.fmod 1000).toNat) t] ++ v4 ++ [.int (-(2 ^ (sc.sum.fmod 1000).toNat)) t']) ∧ o = (List.zipWith (· * ·) dat wt).sum ∧ u = wt.sum) vs ws o u → RowW prog w vs ws o u
  r3 : ∀ vs ws o u, (fun vs ws o u => Paired (GDiv 3) v2 vs ∧ ws = v4 ∧ o = (List.zipWith (· * ·) dat wt).sum ∧ u = 8 * wt.sum) vs ws o u → RowW prog w vs ws o u
  r4 : ∀ vs ws o u, (fun vs ws o u => vs = v2 ∧ Paired (GDiv 2) v4 ws ∧ o = (List.zipWith (· * ·) dat wt).sum ∧ u = wt.sum) vs ws o u → RowW prog w vs ws o u
  r5 : ∀ vs ws o u, (fun vs ws o u => (∃ t, vs = v3 ++ [.int 1 t]) ∧ (∃ t, ws = v4 ++ [.int (((2 : Int) ^ (((sc.length : Nat) : Int).fmod 8).toNat) - wt.sum) t]) ∧ o = (List.zipWith (· * ·) gr wt).sum + ((2 : Int) ^ (((sc.length : Nat) : Int).fmod 8).toNat) - wt.sum ∧ u = ((2 : Int) ^ (((sc.length : Nat) : Int).fmod 8).toNat)) vs ws o u → RowW prog w vs ws o u
  r6 : ∀ vs ws o u, (fun vs ws o u => (∃ t, vs = v2 ++ [.int 1 t]) ∧ (∃ t, ws = v4 ++ [.int (-wt.sum) t]) ∧ o = (List.zipWith (· * ·) dat wt).sum ∧ u = 0) vs ws o u → RowW prog w vs ws o u
  r7 : ∀ vs ws o u, (fun vs ws o u => vs = v2 ∧ (∃ t, ws = v4 ++ [.int 1 t]) ∧ o = (List.zipWith (· * ·) dat wt).sum ∧ u = wt.sum) vs ws o u → RowW prog w vs ws o u
  r8 : ∀ vs ws o u, (fun vs ws o u => (∃ t, vs = v2 ++ [.int 1 t]) ∧ ws = v4 ∧ o = (List.zipWith (· * ·) dat wt).sum ∧ u = wt.sum) vs ws o u → RowW prog w vs ws o u
  r9 : ∀ vs o u, (fun vs o u => vs = v2 ∧ o = dat.sum ∧ u = (v2.length : Int)) vs o u → RowN vs o u
  r10 : ∀ vs o u, (fun vs o u => (∃ x1 t1 x2 t2, vs = [.float x1 t1] ++ v2 ++ [.float x2 t2] ∧ Fl x1 (-1 * (2 ^ (sc.sum.fmod 1000).toNat) * 2 ^ 1074) ∧ Fl x2 (1 * (2 ^ (sc.sum.fmod 1000).toNat) * 2 ^ 1074)) ∧ o = dat.sum ∧ u = (v2.length : Int) + 2) vs o u → RowN vs o u
  r11 : ∀ v5, FltAre v5 sc → ∀ (K : Nat) tk vs o u, (K : Int) + sc.length = 2 ^ Builtin.Int.intBits ((sc.length : Nat) : Int) → vs = v5 ++ List.replicate K (Value.float 0 tk) → o = fsum0 sc → u = (vs.length : Int) * 2 ^ 100 → RowN vs o u
  r12 : ∀ f1 f2 k1 k2 vs ws o u, Fl f1 (1 * 2 ^ 900 * 2 ^ 1074) → Fl f2 (1 * 2 ^ 300 * 2 ^ 1074) → (fun vs ws o u => (∃ t1 t2 t3 t4, vs = [.int 0 t1, .int 0 t2] ++ v2 ++ [.int 0 t3, .int 0 t4]) ∧ (∃ ys f3 f4 k3 k4, ws = [.float f1 k1, .float f2 k2] ++ ys ++ [.float f3 k3, .float f4 k4] ∧ Paired GOne v4 ys ∧ f3 = Float64.neg f2 ∧ f4 = Float64.neg f1) ∧ o = (List.zipWith (· * ·) dat wt).sum ∧ u = wt.sum) vs ws o u → RowW prog w vs ws o u
end Mine
end
theorem Mine.anewV2 : True := by
  w_top off
  exact trivial
section
open PySem PySem.W PyProof.Rows
set_option Elab.async false
set_option maxRecDepth 100000
set_option exponentiation.threshold 6000
set_option linter.unusedVariables false
namespace Mine
open Float64
/-- values, the numbers that they are, and what these are in least units as floats -/
inductive Num3 : List Value → List Nm → List Int → Prop
  | nil : Num3 [] [] []
  | cons {v : Value} {a : Nm} {z : Int} {vs : List Value} {as : List Nm} {zs : List Int} : NmIs v a → a.fits → Fl a.real z → Num3 vs as zs → Num3 (v :: vs) (a :: as) (z :: zs)
theorem Num3.app {vs vs' : List Value} {as as' : List Nm} {zs zs' : List Int} (h : Num3 vs as zs) (h' : Num3 vs' as' zs') : Num3 (vs ++ vs') (as ++ as') (zs ++ zs') := by
  induction h with
  | nil => exact h'
  | cons a b c _ ih => exact .cons a b c ih
theorem Num3.len {vs : List Value} {as : List Nm} {zs : List Int} (h : Num3 vs as zs) : vs.length = as.length ∧ vs.length = zs.length := by
  induction h with
  | nil => exact ⟨rfl, rfl⟩
  | cons a b c _ ih => exact ⟨congrArg (· + 1) ih.1, congrArg (· + 1) ih.2⟩
theorem Num3.nms {vs : List Value} {as : List Nm} {zs : List Int} (h : Num3 vs as zs) : NmsAre vs as := by
  refine ⟨h.len.1, ?_⟩
  induction h with
  | nil => intro i v hv; simp at hv
  | cons a b c _ ih =>
    intro i v hv
    cases i with
    | zero => simp at hv; subst hv; exact ⟨_, rfl, a⟩
    | succ i => exact ih i v (by simpa using hv)
theorem Num3.fits {vs : List Value} {as : List Nm} {zs : List Int} (h : Num3 vs as zs) : ∀ a ∈ as, a.fits := by
  induction h with
  | nil => intro a ha; cases ha
  | cons a b c _ ih =>
    intro q hq
    rcases List.mem_cons.mp hq with rfl | hq
    · exact b
    · exact ih q hq
theorem Num3.fll {vs : List Value} {as : List Nm} {zs : List Int} (h : Num3 vs as zs) : FlL (as.map Nm.real) zs := by
  induction h with
  | nil => trivial
  | cons a b c _ ih => exact ⟨c, ih⟩
theorem fits_small {n : Int} (h : n.natAbs < 2 ^ 1022) : (Nm.i n).fits := by
  show ¬ Flt.Over n
  intro q
  have : (2 : Nat) ^ 1022 ≤ 2 ^ 1024 - 2 ^ 970 := by
    have h1 : (2 : Nat) ^ 1024 = 2 ^ 1022 * 4 := by rw [show (1024 : Nat) = 1022 + 2 from rfl, Nat.pow_add]
    have h2 : (2 : Nat) ^ 970 ≤ 2 ^ 1022 := Nat.pow_le_pow_right (by decide) (by decide)
    rw [h1]
    generalize (2 : Nat) ^ 1022 = A at *
    generalize (2 : Nat) ^ 970 = B at *
    (first | grind | omega)
  exact absurd (Nat.lt_of_lt_of_le h this) (Nat.not_lt.mpr q)
/-- an int that is a float -/
def IntRep (n : Int) : Prop := n.natAbs < 2 ^ 1022 ∧ Rep (n.natAbs * 2 ^ 1074)
theorem intRep_small {n : Int} (h : n.natAbs ≤ 2 ^ 53) : IntRep n := ⟨Nat.lt_of_le_of_lt h (Nat.pow_lt_pow_right (by decide) (by decide)), rep_pow _ _ h (by decide)⟩
theorem num3_int {n : Int} {t : Tok} (h : IntRep n) : Num3 [.int n t] [.i n] [n * 2 ^ 1074] := .cons ⟨t, rfl⟩ (fits_small h.1) (fl_ofInt n h.2) .nil
theorem num3_flt {x : UInt64} {t : Tok} {z : Int} (h : Fl x z) : Num3 [.float x t] [.f x] [z] := .cons ⟨t, rfl⟩ trivial h .nil
theorem num3_ints {vs : List Value} {ns : List Int} (h : IntsAre vs ns) (hs : ∀ n ∈ ns, IntRep n) : Num3 vs (ns.map Nm.i) (ns.map fun n => n * 2 ^ 1074) := by
  induction h with
  | nil => exact .nil
  | cons n t _ ih => exact .cons ⟨t, rfl⟩ (fits_small (hs n List.mem_cons_self).1) (fl_ofInt n (hs n List.mem_cons_self).2) (ih fun m hm => hs m (List.mem_cons_of_mem _ hm))
theorem sumI_map (c : Int) : ∀ l : List Int, sumI (l.map fun n => n * c) = l.sum * c
  | [] => by simp [sumI]
  | a :: l => by
    have := sumI_map c l
    show a * c + sumI (l.map fun n => n * c) = (a :: l).sum * c
    rw [this, List.sum_cons, Int.add_mul]
theorem rd_rep {W Z : Int} (h : Rd W Z) (hr : Rep W.natAbs) : Z = W := by
  rcases h.cases with ⟨_, e⟩ | ⟨q, k, r, σ, _, g, _⟩
  · exact e
  · exact absurd hr g.not_rep
/-- a sum that is a float is told as it is -/
theorem fsum_exact {vs : List Value} {as : List Nm} {zs : List Int} (h : Num3 vs as zs) (hz : ∀ z ∈ zs, z.natAbs ≤ 2 ^ 2074) (hl : vs.length ≤ 64) (hr : Rep (sumI zs).natAbs) : fsumOk [] (as.map Nm.real) ∧ Fl (fsumP (as.map Nm.real)) (sumI zs) := by
  obtain ⟨ok, Z, hf, hd⟩ := fsum_rd h.fll hz (by rw [List.length_map, ← h.len.1]; exact hl)
  rw [rd_rep hd hr] at hf
  exact ⟨ok, hf⟩
/-- a quotient of two floats, both in units of 2 ^ j -/
theorem div_near {x y : UInt64} {o u : Int} {j : Nat} (hx : Fl x (o * 2 ^ j)) (hy : Fl y (u * 2 ^ j)) (ho : o ≠ 0) (hu : u ≠ 0) (bo : o.natAbs < 2 ^ 200) (bu : u.natAbs < 2 ^ 200) : NearB (Float64.div x y) o u := by
  obtain ⟨⟨sx, mx, ex, dx⟩, vx⟩ := hx
  obtain ⟨⟨sy, my, ey, dy⟩, vy⟩ := hy
  have hpj : (0 : Int) < 2 ^ j := by rw [← pow_cast]; have := Nat.two_pow_pos j; (first | lia | omega)
  have hk : my ≠ 0 := by
    intro h
    have := val_eq dy
    rw [h, Nat.zero_mul, vy] at this
    have z : u * 2 ^ j = 0 := by rw [this]; cases sy <;> rfl
    rcases Int.mul_eq_zero.mp z with z | z
    · exact hu z
    · (first | lia | omega)
  have h := div_right dx dy hk
  rw [vx, vy, Int.natAbs_mul, Int.natAbs_mul, natAbs_pow] at h
  have hup : 0 < u.natAbs := by (first | lia | omega)
  have hop : 0 < o.natAbs := by (first | lia | omega)
  have hJ := Nat.two_pow_pos j
  have hlo : u.natAbs * 2 ^ j * 2 ^ 52 ≤ o.natAbs * 2 ^ j * 2 ^ 1074 := by
    have e1 : u.natAbs * 2 ^ j * 2 ^ 52 = 2 ^ j * (u.natAbs * 2 ^ 52) := by ac_rfl
    have e2 : o.natAbs * 2 ^ j * 2 ^ 1074 = 2 ^ j * (o.natAbs * 2 ^ 1074) := by ac_rfl
    rw [e1, e2]
    refine Nat.mul_le_mul_left _ ?_
    have a1 : u.natAbs * 2 ^ 52 ≤ 2 ^ 200 * 2 ^ 52 := Nat.mul_le_mul_right _ (Nat.le_of_lt bu)
    have a2 : (2 : Nat) ^ 200 * 2 ^ 52 ≤ 2 ^ 1074 := by rw [← Nat.pow_add]; exact Nat.pow_le_pow_right (by decide) (by decide)
    have a3 : 1 * 2 ^ 1074 ≤ o.natAbs * 2 ^ 1074 := Nat.mul_le_mul_right _ hop
    rw [Nat.one_mul] at a3
    exact Nat.le_trans a1 (Nat.le_trans a2 a3)
  have hhi : 2 * (o.natAbs * 2 ^ j * 2 ^ 1074) < u.natAbs * 2 ^ j * ((2 ^ 54 - 1) * 2 ^ 2045) := by
    have e1 : 2 * (o.natAbs * 2 ^ j * 2 ^ 1074) = 2 ^ j * (o.natAbs * (2 * 2 ^ 1074)) := by ac_rfl
    have e2 : u.natAbs * 2 ^ j * ((2 ^ 54 - 1) * 2 ^ 2045) = 2 ^ j * (u.natAbs * ((2 ^ 54 - 1) * 2 ^ 2045)) := by ac_rfl
    rw [e1, e2]
    refine Nat.mul_lt_mul_of_pos_left ?_ hJ
    have a1 : o.natAbs * (2 * 2 ^ 1074) < 2 ^ 200 * (2 * 2 ^ 1074) := Nat.mul_lt_mul_of_pos_right bo (Nat.mul_pos (by decide) (Nat.two_pow_pos _))
    have a2 : (2 : Nat) ^ 200 * (2 * 2 ^ 1074) ≤ 2 ^ 2045 := by
      rw [show (2 : Nat) * 2 ^ 1074 = 2 ^ 1075 from (Nat.pow_succ' ..).symm, ← Nat.pow_add]; exact Nat.pow_le_pow_right (by decide) (by decide)
    have a3 : 1 * (1 * 2 ^ 2045) ≤ u.natAbs * ((2 ^ 54 - 1) * 2 ^ 2045) := Nat.mul_le_mul hup (Nat.mul_le_mul_right _ (by decide))
    rw [Nat.one_mul, Nat.one_mul] at a3
    exact Nat.lt_of_lt_of_le a1 (Nat.le_trans a2 a3)
  obtain ⟨q, k, hn, hf⟩ := right_near h (Nat.mul_pos hup hJ) hlo hhi
  have sg : ∀ {s : Bool} {m : Nat} {z : Int}, sgn s m = z * 2 ^ j → z ≠ 0 → s = decide (z < 0) := by
    intro s m z e hz
    rcases Int.lt_or_gt_of_ne hz with l | l
    · have : z * 2 ^ j < 0 := Int.mul_neg_of_neg_of_pos l hpj
      rw [← e] at this
      rw [decide_eq_true l]
      cases s
      · unfold sgn at this; simp at this; (first | lia | omega)
      · rfl
    · have : 0 < z * 2 ^ j := Int.mul_pos l hpj
      rw [← e] at this
      rw [decide_eq_false (by (first | lia | omega))]
      cases s
      · rfl
      · unfold sgn at this; simp at this; (first | lia | omega)
  have s1 := sg ((val_eq dx).symm.trans vx) ho
  have s2 := sg ((val_eq dy).symm.trans vy) hu
  refine near_of hn hf (Nat.mul_pos hup hJ) (by ac_rfl) ho hu (by rw [s1, s2]) (Nat.lt_of_lt_of_le bo (Nat.pow_le_pow_right (by decide) (by decide))) (Nat.lt_of_lt_of_le bu (Nat.pow_le_pow_right (by decide) (by decide)))
theorem div_zero {x y : UInt64} {u : Int} {j : Nat} (hx : Fl x 0) (hy : Fl y (u * 2 ^ j)) (hu : u ≠ 0) : Fl (Float64.div x y) 0 := by
  have hpj : (0 : Int) < 2 ^ j := by rw [← pow_cast]; have := Nat.two_pow_pos j; (first | grind | omega)
  refine fl_div hx hy (fun z => ?_) (by simp) rep_zero
  rcases Int.mul_eq_zero.mp z with z | z
  · exact hu z
  · (first | grind | omega)
theorem div_both {x y : UInt64} {o u : Int} {j : Nat} (hx : Fl x (o * 2 ^ j)) (hy : Fl y (u * 2 ^ j)) (hu : u ≠ 0) (bo : o.natAbs < 2 ^ 200) (bu : u.natAbs < 2 ^ 200) : NearB (Float64.div x y) o u := by
  by_cases ho : o = 0
  · subst ho
    rw [Int.zero_mul] at hx
    exact near_zero (div_zero hx hy hu)
  · exact div_near hx hy ho hu bo bu
/-- a power of two below a rounded number -/
theorem div_pow_near {x y : UInt64} {neg : Bool} {q k W l : Nat} {o u : Int} (h : NearC q k W 1) (hx : Fl x (sgn neg (q * 2 ^ k))) (hy : Fl y (2 ^ l * 2 ^ 1074)) (hl : l ≤ k) (hk : k ≤ 2044) (hv : o.natAbs * 2 ^ 1074 * 2 ^ l = W * u.natAbs) (ho : o ≠ 0) (hu : 0 < u)
    (hs : neg = decide (o < 0)) (bo : o.natAbs < 2 ^ 5000) (bu : u.natAbs < 2 ^ 5000) : NearB (Float64.div x y) o u := by
  obtain ⟨d, rfl⟩ : ∃ d, k = d + l := ⟨k - l, by (first | lia | omega)⟩
  have h2 := h.scale
  have hf : Fl (Float64.div x y) (sgn neg (q * 2 ^ d)) := by
    refine fl_div hx hy ?_ ?_ ?_
    · rw [← pow_cast, ← pow_cast, ← Int.natCast_mul]
      have := Nat.mul_pos (Nat.two_pow_pos l) (Nat.two_pow_pos 1074)
      (first | lia | omega)
    · rw [← pow_cast l, ← pow_cast 1074, Nat.pow_add, ← Nat.mul_assoc, sgn_mul (m := q * 2 ^ d)]
      generalize ((2 ^ 1074 : Nat) : Int) = A
      generalize ((2 ^ l : Nat) : Int) = B
      generalize sgn neg (q * 2 ^ d) = C
      rw [Int.mul_assoc, Int.mul_comm]
    · rw [sgn_natAbs]; exact rep_pow _ _ (Nat.le_of_lt h.hi) (by (first | lia | omega))
  rw [Nat.one_mul] at h2
  exact near_of h2 hf (Nat.two_pow_pos l) hv ho (by (first | lia | omega)) (by rw [hs, decide_eq_false (by (first | lia | omega) : ¬ u < 0)]; simp) bo bu
end Mine
end
theorem Mine.anewV3 : True := by
  w_top off
  exact trivial
section
open PySem PySem.W PyProof.Rows
set_option Elab.async false
set_option maxRecDepth 100000
set_option exponentiation.threshold 6000
set_option linter.unusedVariables false
namespace Mine
open Float64
theorem two_ne (j : Nat) : (2 : Int) ^ j ≠ 0 := by rw [← pow_cast]; have := Nat.two_pow_pos j; (first | grind | omega)
theorem row_eq {prog : Program} {w : World} {vs ws : List Value} {ys : List Nm} {zs : List Int} {num : Nm} {o u : Int} {j : Nat} (hS : SumP prog w vs ws num) (hf : num.fits) (hn : Fl num.real (o * 2 ^ j)) (h3 : Num3 ws ys zs) (hz : ∀ z ∈ zs, z.natAbs ≤ 2 ^ 2074)
    (hsum : sumI zs = u * 2 ^ j) (hrep : Rep (u * 2 ^ j).natAbs) (hl : vs.length = ws.length) (hl2 : vs.length ≤ 64) (bo : o.natAbs < 2 ^ 200) (bu : u.natAbs < 2 ^ 200) : RowW prog w vs ws o u := by
  obtain ⟨ok, hd⟩ := fsum_exact h3 hz (by (first | lia | omega)) (by rw [hsum]; exact hrep)
  rw [hsum] at hd
  refine ⟨ys, num, hS, hf, h3.nms, h3.fits, by (first | lia | omega), by (first | lia | omega), ok, ?_⟩
  have iz := fl_isZero hd
  by_cases hu : u = 0
  · exact .inr (.inl ⟨hl, hu, by rw [iz]; exact decide_eq_true (by rw [hu, Int.zero_mul])⟩)
  · refine .inr (.inr ⟨hl, hu, ?_, div_both hn hd hu bo bu⟩)
    rw [iz]
    exact decide_eq_false fun z => (Int.mul_eq_zero.mp z).elim hu (two_ne j)
theorem row_ne {prog : Program} {w : World} {vs ws : List Value} {ys : List Nm} {zs : List Int} {num : Nm} {o u : Int} (hS : SumP prog w vs ws num) (hf : num.fits) (h3 : Num3 ws ys zs) (hz : ∀ z ∈ zs, z.natAbs ≤ 2 ^ 2074)
    (hl : vs.length ≠ ws.length) (hl2 : vs.length ≤ 64) (hl3 : ws.length ≤ 64) : RowW prog w vs ws o u := by
  obtain ⟨ok, _⟩ := fsum_rd h3.fll hz (by rw [List.length_map, ← h3.len.1]; exact hl3)
  exact ⟨ys, num, hS, hf, h3.nms, h3.fits, by (first | grind | omega), by (first | grind | omega), ok, .inl hl⟩
theorem row_no {vs : List Value} {ys : List Nm} {zs : List Int} {o u : Int} {n : Nat} (h3 : Num3 vs ys zs) (hz : ∀ z ∈ zs, z.natAbs ≤ 2 ^ 2074) (hsum : sumI zs = o * 2 ^ 1074) (hrep : Rep (o * 2 ^ 1074).natAbs) (hn : vs.length = n) (hl : n ≤ 64) (hu : u = (n : Int)) (bo : o.natAbs < 2 ^ 200) : RowN vs o u := by
  obtain ⟨ok, hd⟩ := fsum_exact h3 hz (by (first | lia | omega)) (by rw [hsum]; exact hrep)
  rw [hsum] at hd
  refine ⟨ys, h3.nms, h3.fits, by have := h3.len.1; (first | lia | omega), ok, ?_⟩
  by_cases h0 : n = 0
  · exact .inl ⟨by (first | lia | omega), by (first | lia | omega)⟩
  · refine .inr ⟨by (first | lia | omega), by (first | lia | omega), ?_⟩
    have hb : u.natAbs ≤ 2 ^ 53 := by (first | lia | omega)
    have hy := fl_ofInt u (intRep_small hb).2
    rw [hn, ← hu]
    exact div_both hd hy (by (first | lia | omega)) bo (Nat.lt_of_le_of_lt hb (by decide))
theorem sumP_ints {prog : Program} {w : World} {vs ws : List Value} {xs ys : List Int} (h1 : IntsAre vs xs) (h2 : IntsAre ws ys) {a b : Nat} (ha : ∀ x ∈ xs, x.natAbs < 2 ^ a) (hb : ∀ y ∈ ys, y.natAbs < 2 ^ b) (hab : a + b ≤ 134217728) : SumP prog w vs ws (.i (dot xs ys)) := by
  intro A E Q s v mods r2 hA S1 hl2 K1 K2
  refine sp_ints hA S1 hl2 h1 h2 (fun i x y hx hy => IntMulOk.of_le (intBits_le_iff.mpr (ha x (List.mem_of_getElem? hx))) (intBits_le_iff.mpr (hb y (List.mem_of_getElem? hy))) hab) (fun hl h' tk t k => ?_) (fun hl => ?_)
  · exact K1 (by rw [IntsAre.length h1, IntsAre.length h2]; exact hl) h' tk _ ⟨t, rfl⟩ k
  · exact K2 (by rw [IntsAre.length h1, IntsAre.length h2]; exact hl)
theorem sumP_flts {prog : Program} {w : World} {vs ws : List Value} {xs ys : List Nm} {zs zs' : List Int} (h1 : Num3 vs xs zs) (h2 : Num3 ws ys zs') (hl : vs.length = ws.length) (hone : (∀ a ∈ xs, a.isf = true) ∨ (∀ b ∈ ys, b.isf = true)) (hok : triOk zero3 ((xs.map Nm.real).zip (ys.map Nm.real))) :
    SumP prog w vs ws (sprodF ((xs.map Nm.real).zip (ys.map Nm.real))) := by
  intro A E Q s v mods r2 hA S1 hl2 K1 K2
  refine sp_flts hA S1 hl2 h1.nms h2.nms (by rw [← h1.len.1, ← h2.len.1]; exact hl) h1.fits h2.fits (fun i a b ha hb => ?_) hok (fun h' tk u hu k => K1 hl h' tk u hu k)
  rcases hone with z | z
  · rw [z a (List.mem_of_getElem? ha)]; rfl
  · rw [z b (List.mem_of_getElem? hb)]; cases a.isf <;> rfl
/-- products, in units of 2 ^ m -/
inductive Mul3 (m : Nat) : List Int → List Int → List Int → Prop
  | nil : Mul3 m [] [] []
  | cons {a b c : Int} {as bs cs : List Int} : a * b = 2 ^ 1074 * (c * 2 ^ m) → Mul3 m as bs cs → Mul3 m (a :: as) (b :: bs) (c :: cs)
theorem Mul3.app {m : Nat} {as bs cs as' bs' cs' : List Int} (h : Mul3 m as bs cs) (h' : Mul3 m as' bs' cs') : Mul3 m (as ++ as') (bs ++ bs') (cs ++ cs') := by
  induction h with
  | nil => exact h'
  | cons e _ ih => exact .cons e ih
theorem mul3_prs {m : Nat} {as bs cs : List Int} (h : Mul3 m as bs cs) : ∀ {xs ys : List UInt64}, FlL xs as → FlL ys bs → PrsM m (xs.zip ys) cs := by
  induction h with
  | nil =>
    intro xs ys hx hy
    cases xs with
    | nil => trivial
    | cons x xs => exact hx.elim
  | cons e _ ih =>
    intro xs ys hx hy
    cases xs with
    | nil => exact hx.elim
    | cons x xs =>
      cases ys with
      | nil => exact hy.elim
      | cons y ys => exact ⟨⟨_, _, hx.1, hy.1, e⟩, ih hx.2 hy.2⟩
theorem mul3_map {i j m : Nat} (h : i + j = 1074 + m) : ∀ {as bs : List Int}, as.length = bs.length → Mul3 m (as.map fun n => n * 2 ^ i) (bs.map fun n => n * 2 ^ j) (List.zipWith (· * ·) as bs)
  | [], [], _ => .nil
  | a :: as, b :: bs, hl => by
    refine .cons ?_ (mul3_map h (by simpa using hl))
    have e : (2 : Int) ^ i * 2 ^ j = 2 ^ 1074 * 2 ^ m := by rw [← Int.pow_add, ← Int.pow_add, h]
    generalize (2 : Int) ^ i = A at *
    generalize (2 : Int) ^ j = B at *
    generalize (2 : Int) ^ 1074 = C at *
    generalize (2 : Int) ^ m = D at *
    rw [show a * A * (b * B) = a * b * (A * B) by ac_rfl, e]
    ac_rfl
  | [], _ :: _, hl => by simp at hl
  | _ :: _, [], hl => by simp at hl
theorem sprod_all {m : Nat} (hm : m ≤ 2044) {ps : List (UInt64 × UInt64)} {cs : List Int} (he : PrsM m ps cs) (hb : sumA cs ≤ 2 ^ 53) : triOk zero3 ps ∧ (sprodF ps).fits ∧ Fl (sprodF ps).real (sumI cs * 2 ^ m) := by
  cases ps with
  | nil =>
    cases cs with
    | nil =>
      refine ⟨trivial, fits_small (n := 0) (by decide), ?_⟩
      have := fl_ofInt 0 (intRep_small (n := 0) (by decide)).2
      rw [Int.zero_mul] at this
      show Fl (ofInt 0) (0 * 2 ^ m)
      rw [Int.zero_mul]
      exact this
    | cons c cs => exact he.elim
  | cons p ps =>
    obtain ⟨h1, r, h2, h3⟩ := sprodM hm he (by simp) hb
    rw [h2]
    exact ⟨h1, trivial, h3⟩
theorem sumI_eq : ∀ l : List Int, sumI l = l.sum
  | [] => rfl
  | a :: l => by
    show a + sumI l = (a :: l).sum
    rw [sumI_eq l, List.sum_cons]
theorem dot_eq : ∀ {as bs : List Int}, as.length = bs.length → dot as bs = (List.zipWith (· * ·) as bs).sum
  | [], [], _ => by simp [dot]
  | a :: as, b :: bs, h => by
    show a * b + dot as bs = _
    rw [dot_eq (by simpa using h), List.zipWith_cons_cons, List.sum_cons]
  | [], _ :: _, h => by simp at h
  | _ :: _, [], h => by simp at h
theorem dot_app : ∀ {as bs as' bs' : List Int}, as.length = bs.length → dot (as ++ as') (bs ++ bs') = dot as bs + dot as' bs'
  | [], [], as', bs', _ => by simp [dot]
  | a :: as, b :: bs, as', bs', h => by
    show a * b + dot (as ++ as') (bs ++ bs') = a * b + dot as bs + dot as' bs'
    rw [dot_app (by simpa using h), Int.add_assoc]
  | [], _ :: _, _, _, h => by simp at h
  | _ :: _, [], _, _, h => by simp at h
theorem zip_sumA {A B : Nat} : ∀ {as bs : List Int}, (∀ a ∈ as, a.natAbs ≤ A) → (∀ b ∈ bs, b.natAbs ≤ B) → sumA (List.zipWith (· * ·) as bs) ≤ as.length * (A * B)
  | [], bs, _, _ => by show (0 : Nat) ≤ _; exact Nat.zero_le _
  | _ :: _, [], _, _ => by show (0 : Nat) ≤ _; exact Nat.zero_le _
  | a :: as, b :: bs, ha, hb => by
    have ih := zip_sumA (A := A) (B := B) (as := as) (bs := bs) (fun x h => ha x (List.mem_cons_of_mem _ h)) (fun x h => hb x (List.mem_cons_of_mem _ h))
    show (a * b).natAbs + sumA (List.zipWith (· * ·) as bs) ≤ (as.length + 1) * (A * B)
    have h1 : (a * b).natAbs ≤ A * B := by rw [Int.natAbs_mul]; exact Nat.mul_le_mul (ha a List.mem_cons_self) (hb b List.mem_cons_self)
    rw [Nat.add_mul, Nat.one_mul]
    (first | grind | omega)
theorem sum_bound {A : Nat} : ∀ {as : List Int}, (∀ a ∈ as, a.natAbs ≤ A) → as.sum.natAbs ≤ as.length * A
  | [], _ => by simp
  | a :: as, h => by
    have ih := sum_bound (A := A) (as := as) (fun x q => h x (List.mem_cons_of_mem _ q))
    have h1 := h a List.mem_cons_self
    rw [List.sum_cons, List.length_cons, Nat.add_mul, Nat.one_mul]
    omega
end Mine
end
theorem Mine.anewV4 : True := by
  w_top off
  exact trivial
section
open PySem PySem.W PyProof.Rows
set_option Elab.async false
set_option maxRecDepth 100000
set_option exponentiation.threshold 6000
set_option linter.unusedVariables false
namespace Mine
open Float64
theorem num3_div {k : Nat} {v2 vs : List Value} (h : Paired (GDiv k) v2 vs) : ∀ {dat : List Int}, IntsAre v2 dat → ∃ as, Num3 vs as (dat.map fun n => n * 2 ^ (1074 - k)) ∧ ∀ a ∈ as, a.isf = true := by
  induction h with
  | nil => intro dat i; cases i; exact ⟨[], .nil, fun a h => by cases h⟩
  | cons g _ ih =>
    intro dat i
    cases i with
    | cons n t i =>
      obtain ⟨n', t', x, tk, e, rfl, hf⟩ := g
      cases e
      obtain ⟨as, h1, h2⟩ := ih i
      refine ⟨.f x :: as, .cons ⟨tk, rfl⟩ trivial hf h1, fun a ha => ?_⟩
      rcases List.mem_cons.mp ha with rfl | ha
      · rfl
      · exact h2 a ha
theorem num3_one {v2 vs : List Value} (h : Paired GOne v2 vs) : ∀ {dat : List Int}, IntsAre v2 dat → ∃ as, Num3 vs as (dat.map fun n => n * 2 ^ 1074) ∧ ∀ a ∈ as, a.isf = true := by
  induction h with
  | nil => intro dat i; cases i; exact ⟨[], .nil, fun a h => by cases h⟩
  | cons g _ ih =>
    intro dat i
    cases i with
    | cons n t i =>
      obtain ⟨n', t', x, tk, e, rfl, hf⟩ := g
      cases e
      rw [Int.one_mul] at hf
      obtain ⟨as, h1, h2⟩ := ih i
      refine ⟨.f x :: as, .cons ⟨tk, rfl⟩ trivial hf h1, fun a ha => ?_⟩
      rcases List.mem_cons.mp ha with rfl | ha
      · rfl
      · exact h2 a ha
theorem map_le {i b c : Nat} {l : List Int} (h : ∀ d ∈ l, d.natAbs < 2 ^ b) (hc : b + i ≤ c) : ∀ z ∈ l.map (fun n => n * 2 ^ i), z.natAbs ≤ 2 ^ c := by
  intro z hz
  obtain ⟨n, hn, rfl⟩ := List.mem_map.mp hz
  rw [Int.natAbs_mul, natAbs_pow]
  refine Nat.le_trans (Nat.mul_le_mul_right _ (Nat.le_of_lt (h n hn))) ?_
  rw [← Nat.pow_add]
  exact Nat.pow_le_pow_right (by decide) hc
theorem one_le {i b c : Nat} {d : Int} (h : d.natAbs < 2 ^ b) (hc : b + i ≤ c) : (d * 2 ^ i).natAbs ≤ 2 ^ c :=
  map_le (l := [d]) (fun q hq => by rw [List.mem_singleton.mp hq]; exact h) hc _ (by simp)
theorem repj {n : Int} (h : n.natAbs ≤ 2 ^ 53) {j : Nat} (hj : j ≤ 2044) : Rep (n * 2 ^ j).natAbs := by
  rw [Int.natAbs_mul, natAbs_pow]
  exact rep_pow _ _ h hj
theorem row_z {prog : Program} {w : World} {vs ws : List Value} {ys : List Nm} {zs : List Int} {num : Nm} {o : Int} (hS : SumP prog w vs ws num) (hf : num.fits) (h3 : Num3 ws ys zs) (hz : ∀ z ∈ zs, z.natAbs ≤ 2 ^ 2074)
    (hsum : sumI zs = 0) (hl : vs.length = ws.length) (hl2 : vs.length ≤ 64) : RowW prog w vs ws o 0 := by
  obtain ⟨ok, hd⟩ := fsum_exact h3 hz (by (first | lia | omega)) (by rw [hsum]; exact rep_zero)
  rw [hsum] at hd
  exact ⟨ys, num, hS, hf, h3.nms, h3.fits, by (first | lia | omega), by (first | lia | omega), ok, .inr (.inl ⟨hl, rfl, by rw [fl_isZero hd]; rfl⟩)⟩
theorem NearC.k_lo {q k W a : Nat} (h : NearC q k W 1) (hW : 2 ^ a ≤ W) : a ≤ k + 53 := by
  have h1 := h.hi
  have up : 4 * W ≤ (4 * q + 2) * 2 ^ k := by
    rcases Nat.mod_two_eq_zero_or_one q with z | z
    · have := (h.even z).2; rwa [Nat.mul_one] at this
    · have := Nat.le_of_lt (h.odd z).2; rwa [Nat.mul_one] at this
  have h2 : (4 * q + 2) * 2 ^ k < 2 ^ 55 * 2 ^ k := Nat.mul_lt_mul_of_pos_right (by (first | lia | omega)) (Nat.two_pow_pos k)
  rw [← Nat.pow_add] at h2
  have h3 : 2 ^ (a + 2) < 2 ^ (55 + k) := by
    rw [Nat.pow_add 2 a 2]
    (first | lia | omega)
  have := (Nat.pow_lt_pow_iff_right (by decide : 1 < 2)).mp h3
  (first | lia | omega)
theorem NearC.k_hi {q k W b : Nat} (h : NearC q k W 1) (hW : W < 2 ^ b) : k + 51 ≤ b := by
  have h1 := h.lo
  have lo : 4 * q * 2 ^ k ≤ 4 * W + 2 * 2 ^ k := by
    have hc : (if q = 2 ^ 52 then 1 else 2) * 2 ^ k ≤ 2 * 2 ^ k := Nat.mul_le_mul_right _ (by split <;> decide)
    rcases Nat.mod_two_eq_zero_or_one q with z | z
    · have := (h.even z).1; rw [Nat.mul_one, Nat.mul_one] at this; (first | lia | omega)
    · have := (h.odd z).1; rw [Nat.mul_one, Nat.mul_one] at this; (first | lia | omega)
  have h2 : 2 ^ 53 * 2 ^ k ≤ (4 * q - 2) * 2 ^ k := Nat.mul_le_mul_right _ (by (first | lia | omega))
  have h3 : (4 * q - 2) * 2 ^ k + 2 * 2 ^ k = 4 * q * 2 ^ k := by rw [← Nat.add_mul]; congr 1; (first | lia | omega)
  have h4 : 2 ^ (53 + k) < 2 ^ (b + 2) := by
    rw [Nat.pow_add 2 b 2, Nat.pow_add]
    (first | lia | omega)
  have := (Nat.pow_lt_pow_iff_right (by decide : 1 < 2)).mp h4
  (first | lia | omega)
theorem ints1 {n : Int} {t : Tok} : IntsAre [.int n t] [n] := .cons n t .nil
section
variable {prog : Program} {w : World} {v2 v3 v4 : List Value} {sc dat gr wt : List Int} (i2 : IntsAre v2 dat) (i3 : IntsAre v3 gr) (i4 : IntsAre v4 wt) (len : sc.length ≤ 31) (l2 : dat.length = sc.length) (l3 : gr.length = sc.length) (l4 : wt.length = sc.length)
  (d2 : ∀ d ∈ dat, d.natAbs < 2 ^ 40) (d3 : ∀ d ∈ gr, d.natAbs < 2 ^ 900) (d4 : ∀ d ∈ wt, d.natAbs ≤ 8)
include d2 d4 len l2 l4 in
theorem over_le : sumA (List.zipWith (· * ·) dat wt) ≤ 2 ^ 48 ∧ (List.zipWith (· * ·) dat wt).sum.natAbs ≤ 2 ^ 48 := by
  have h := zip_sumA (A := 2 ^ 40) (B := 8) (fun d h => Nat.le_of_lt (d2 d h)) d4
  have h2 := sumI_le (List.zipWith (· * ·) dat wt)
  rw [sumI_eq] at h2
  have h3 : dat.length * (2 ^ 40 * 8) ≤ 31 * (2 ^ 40 * 8) := Nat.mul_le_mul_right _ (by (first | lia | omega))
  (first | lia | omega)
include d4 len l4 in
theorem un_le : wt.sum.natAbs ≤ 248 := by
  have := sum_bound d4
  (first | grind | omega)
include d2 len l2 in
theorem pt_le : dat.sum.natAbs ≤ 2 ^ 45 := by
  have h := sum_bound (A := 2 ^ 40) (fun d h => Nat.le_of_lt (d2 d h))
  have h3 : dat.length * 2 ^ 40 ≤ 31 * 2 ^ 40 := Nat.mul_le_mul_right _ (by (first | lia | omega))
  (first | lia | omega)
include d2 in
theorem rep2 : ∀ n ∈ dat, IntRep n := fun n h => intRep_small (by have := d2 n h; (first | lia | omega))
include d4 in
theorem rep4 : ∀ n ∈ wt, IntRep n := fun n h => intRep_small (by have := d4 n h; (first | lia | omega))
include d4 in
theorem lt4 : ∀ n ∈ wt, n.natAbs < 2 ^ 4 := fun n h => by have := d4 n h; (first | lia | omega)
include i2 i4 l2 l4 in
theorem len24 : v2.length = v4.length := by rw [IntsAre.length i2, IntsAre.length i4]; (first | grind | omega)
include i2 l2 len in
theorem lenv2 : v2.length ≤ 31 := by rw [IntsAre.length i2]; (first | grind | omega)
include i4 l4 len in
theorem lenv4 : v4.length ≤ 31 := by rw [IntsAre.length i4]; (first | grind | omega)
include i2 i4 len l2 l4 d2 d4 in
theorem row1 : RowW prog w v2 v4 (List.zipWith (· * ·) dat wt).sum wt.sum := by
  have ov := (over_le len l2 l4 d2 d4).2
  have un := un_le len l4 d4
  have e := dot_eq (as := dat) (bs := wt) (by (first | lia | omega))
  have hr : IntRep (dot dat wt) := intRep_small (by rw [e]; (first | lia | omega))
  refine row_eq (j := 1074) (sumP_ints i2 i4 d2 (lt4 d4) (by decide)) (fits_small hr.1) ?_ (num3_ints i4 (rep4 d4)) (map_le (lt4 d4) (by decide)) (sumI_map _ _) (repj (by (first | lia | omega)) (by decide)) (len24 i2 i4 l2 l4) (by have := lenv2 i2 len l2; (first | lia | omega)) (Nat.lt_of_le_of_lt ov (by decide)) (Nat.lt_of_le_of_lt un (by decide))
  rw [← e]
  exact fl_ofInt _ hr.2
include i2 i4 len l2 l4 d2 d4 in
theorem row2 {bg : Int} (hb : ∃ e : Nat, e < 1000 ∧ bg = 2 ^ e) {t1 t2 t3 t4 : Tok} : RowW prog w ([.int dat.sum t1] ++ v2 ++ [.int dat.sum t2]) ([.int bg t3] ++ v4 ++ [.int (-bg) t4]) (List.zipWith (· * ·) dat wt).sum wt.sum := by
  have ov := (over_le len l2 l4 d2 d4).2
  have un := un_le len l4 d4
  have pt := pt_le len l2 d2
  obtain ⟨e, he, rfl⟩ := hb
  have hbg : (2 ^ e : Int).natAbs < 2 ^ 1000 := by rw [natAbs_pow]; exact Nat.pow_lt_pow_right (by decide) he
  have rb : IntRep (2 ^ e) := ⟨Nat.lt_of_lt_of_le hbg (Nat.pow_le_pow_right (by decide) (by decide)), rep_big he⟩
  have rb2 : IntRep (-(2 ^ e)) := by unfold IntRep; rw [Int.natAbs_neg]; exact rb
  have ed : dot ([dat.sum] ++ dat ++ [dat.sum]) ([2 ^ e] ++ wt ++ [-(2 ^ e)]) = (List.zipWith (· * ·) dat wt).sum := by
    rw [dot_app (by simp; (first | lia | omega)), dot_app (by simp), dot_eq (as := dat) (bs := wt) (by (first | lia | omega))]
    show dat.sum * 2 ^ e + 0 + _ + (dat.sum * -(2 ^ e) + 0) = _
    rw [Int.mul_neg]
    (first | lia | omega)
  have hr : IntRep (dot ([dat.sum] ++ dat ++ [dat.sum]) ([2 ^ e] ++ wt ++ [-(2 ^ e)])) := intRep_small (by rw [ed]; (first | lia | omega))
  refine row_eq (j := 1074) (sumP_ints (a := 50) (b := 1000) ((ints1.append i2).append ints1) ((ints1.append i4).append ints1) (fun x hx => ?_) (fun x hx => ?_) (by decide)) (fits_small hr.1) ?_ (((num3_int rb).app (num3_ints i4 (rep4 d4))).app (num3_int rb2)) (fun z hz => ?_) ?_ (repj (by (first | lia | omega)) (by decide)) ?_ ?_ (Nat.lt_of_le_of_lt ov (by decide)) (Nat.lt_of_le_of_lt un (by decide))
  · simp only [List.mem_append, List.mem_singleton] at hx
    rcases hx with (rfl | hx) | rfl
    · (first | lia | omega)
    · have := d2 x hx; (first | lia | omega)
    · (first | lia | omega)
  · simp only [List.mem_append, List.mem_singleton] at hx
    rcases hx with (rfl | hx) | rfl
    · exact hbg
    · exact Nat.lt_of_lt_of_le (lt4 d4 x hx) (Nat.pow_le_pow_right (by decide) (by decide))
    · rw [Int.natAbs_neg]; exact hbg
  · have := fl_ofInt _ hr.2
    rw [ed] at this ⊢
    exact this
  · simp only [List.mem_append, List.mem_singleton] at hz
    rcases hz with (rfl | hz) | rfl
    · exact one_le hbg (by decide)
    · exact map_le (lt4 d4) (by decide) z hz
    · exact one_le (by rw [Int.natAbs_neg]; exact hbg) (by decide)
  · rw [sumI_app, sumI_app, sumI_one, sumI_one, sumI_map, Int.neg_mul]
    (first | lia | omega)
  · have := len24 i2 i4 l2 l4
    simp; (first | lia | omega)
  · have := lenv2 i2 len l2
    simp; (first | lia | omega)
include i2 i4 len l2 l4 d2 d4 in
theorem row3 {vs : List Value} (hp : Paired (GDiv 3) v2 vs) : RowW prog w vs v4 (List.zipWith (· * ·) dat wt).sum (8 * wt.sum) := by
  obtain ⟨oA, ov⟩ := over_le len l2 l4 d2 d4
  have un := un_le len l4 d4
  obtain ⟨as, n1, h1⟩ := num3_div hp i2
  have n2 := num3_ints i4 (rep4 d4)
  have hl : vs.length = v4.length := hp.length.symm.trans (len24 i2 i4 l2 l4)
  have hP := mul3_prs (mul3_map (i := 1074 - 3) (j := 1074) (m := 1071) rfl (as := dat) (bs := wt) (by (first | lia | omega))) n1.fll n2.fll
  obtain ⟨ok, ft, fl⟩ := sprod_all (by decide) hP (Nat.le_trans oA (by decide))
  rw [sumI_eq] at fl
  refine row_eq (j := 1071) (sumP_flts n1 n2 hl (.inl h1) ok) ft fl n2 (map_le (lt4 d4) (by decide)) ?_ (repj (by (first | lia | omega)) (by decide)) hl (by have := lenv4 i4 len l4; (first | lia | omega)) (Nat.lt_of_le_of_lt ov (by decide)) (by (first | lia | omega))
  rw [sumI_map, show (2 : Int) ^ 1074 = 8 * 2 ^ 1071 from by rw [show (1074 : Nat) = 3 + 1071 from rfl, Int.pow_add]; rfl]
  ac_rfl
include i2 i4 len l2 l4 d2 d4 in
theorem row4 {ws : List Value} (hp : Paired (GDiv 2) v4 ws) : RowW prog w v2 ws (List.zipWith (· * ·) dat wt).sum wt.sum := by
  obtain ⟨oA, ov⟩ := over_le len l2 l4 d2 d4
  have un := un_le len l4 d4
  obtain ⟨bs, n2, h2⟩ := num3_div hp i4
  have n1 := num3_ints i2 (rep2 d2)
  have hl : v2.length = ws.length := (len24 i2 i4 l2 l4).trans hp.length
  have hP := mul3_prs (mul3_map (i := 1074) (j := 1074 - 2) (m := 1072) rfl (as := dat) (bs := wt) (by (first | lia | omega))) n1.fll n2.fll
  obtain ⟨ok, ft, fl⟩ := sprod_all (by decide) hP (Nat.le_trans oA (by decide))
  rw [sumI_eq] at fl
  exact row_eq (j := 1072) (sumP_flts n1 n2 hl (.inr h2) ok) ft fl n2 (map_le (lt4 d4) (by decide)) (sumI_map _ _) (repj (by (first | lia | omega)) (by decide)) hl (by have := lenv2 i2 len l2; (first | lia | omega)) (Nat.lt_of_le_of_lt ov (by decide)) (by (first | lia | omega))
include i2 i4 len l2 l4 d2 d4 in
theorem row6 {t1 t2 : Tok} {o : Int} : RowW prog w (v2 ++ [.int 1 t1]) (v4 ++ [.int (-wt.sum) t2]) o 0 := by
  have ov := (over_le len l2 l4 d2 d4).2
  have un := un_le len l4 d4
  have r1 : IntRep (-wt.sum) := intRep_small (by omega)
  have e : dot (dat ++ [1]) (wt ++ [-wt.sum]) = (List.zipWith (· * ·) dat wt).sum - wt.sum := by
    rw [dot_app (by omega), dot_eq (as := dat) (bs := wt) (by omega)]
    show _ + (1 * -wt.sum + 0) = _
    omega
  refine row_z (sumP_ints (a := 40) (b := 10) (i2.append ints1) (i4.append ints1) (fun x hx => ?_) (fun x hx => ?_) (by decide)) (fits_small ?_) ((num3_ints i4 (rep4 d4)).app (num3_int r1)) (fun z hz => ?_) ?_ ?_ ?_
  · simp only [List.mem_append, List.mem_singleton] at hx
    rcases hx with hx | rfl
    · exact d2 x hx
    · decide
  · simp only [List.mem_append, List.mem_singleton] at hx
    rcases hx with hx | rfl
    · have := d4 x hx; omega
    · omega
  · rw [e]
    exact Nat.lt_of_le_of_lt (m := 2 ^ 49) (by omega) (Nat.pow_lt_pow_right (by decide) (by decide))
  · simp only [List.mem_append, List.mem_singleton] at hz
    rcases hz with hz | rfl
    · exact map_le (lt4 d4) (by decide) z hz
    · exact one_le (b := 10) (by omega) (by decide)
  · rw [sumI_app, sumI_one, sumI_map, Int.neg_mul]
    omega
  · have := len24 i2 i4 l2 l4
    simp; omega
  · have := lenv2 i2 len l2
    simp; omega
include i2 i4 len l2 l4 d2 d4 in
theorem row7 {t : Tok} {o u : Int} : RowW prog w v2 (v4 ++ [.int 1 t]) o u := by
  have hl := len24 i2 i4 l2 l4
  have hv := lenv2 i2 len l2
  have ov := (over_le len l2 l4 d2 d4).2
  have e : ∀ as bs : List Int, as.length = bs.length → dot as (bs ++ [1]) = dot as bs := by
    intro as
    induction as with
    | nil => intro bs h; cases bs <;> simp [dot] at h ⊢
    | cons a as ih => intro bs h; cases bs with
      | nil => simp at h
      | cons b bs => show a * b + dot as (bs ++ [1]) = a * b + dot as bs; rw [ih bs (by simpa using h)]
  refine row_ne (sumP_ints (a := 40) (b := 4) i2 (i4.append ints1) d2 (fun x hx => ?_) (by decide)) (fits_small ?_) ((num3_ints i4 (rep4 d4)).app (num3_int (intRep_small (by decide)))) (fun z hz => ?_) (by simp; (first | lia | omega)) (by (first | lia | omega)) (by simp; (first | lia | omega))
  · simp only [List.mem_append, List.mem_singleton] at hx
    rcases hx with hx | rfl
    · exact lt4 d4 x hx
    · decide
  · rw [e dat wt (by (first | lia | omega)), dot_eq (as := dat) (bs := wt) (by (first | lia | omega))]
    exact Nat.lt_of_le_of_lt ov (Nat.pow_lt_pow_right (by decide) (by decide))
  · simp only [List.mem_append, List.mem_singleton] at hz
    rcases hz with hz | rfl
    · exact map_le (lt4 d4) (by decide) z hz
    · exact one_le (b := 10) (by decide) (by decide)
include i2 i4 len l2 l4 d2 d4 in
theorem row8 {t : Tok} {o u : Int} : RowW prog w (v2 ++ [.int 1 t]) v4 o u := by
  have hl := len24 i2 i4 l2 l4
  have hv := lenv2 i2 len l2
  have ov := (over_le len l2 l4 d2 d4).2
  have e : ∀ as bs : List Int, as.length = bs.length → dot (as ++ [1]) bs = dot as bs := by
    intro as
    induction as with
    | nil => intro bs h; cases bs <;> simp [dot] at h ⊢
    | cons a as ih => intro bs h; cases bs with
      | nil => simp at h
      | cons b bs => show a * b + dot (as ++ [1]) bs = a * b + dot as bs; rw [ih bs (by simpa using h)]
  refine row_ne (sumP_ints (a := 40) (b := 4) (i2.append ints1) i4 (fun x hx => ?_) (lt4 d4) (by decide)) (fits_small ?_) (num3_ints i4 (rep4 d4)) (map_le (lt4 d4) (by decide)) (by simp; (first | lia | omega)) (by simp; (first | lia | omega)) (by (first | lia | omega))
  · simp only [List.mem_append, List.mem_singleton] at hx
    rcases hx with hx | rfl
    · exact d2 x hx
    · decide
  · rw [e dat wt (by (first | lia | omega)), dot_eq (as := dat) (bs := wt) (by (first | lia | omega))]
    exact Nat.lt_of_le_of_lt ov (Nat.pow_lt_pow_right (by decide) (by decide))
include i2 len l2 d2 in
theorem row9 : RowN v2 dat.sum (v2.length : Int) := by
  have pt := pt_le len l2 d2
  have hv := lenv2 i2 len l2
  exact row_no (num3_ints i2 (rep2 d2)) (map_le d2 (by decide)) (sumI_map _ _) (repj (by (first | lia | omega)) (by decide)) rfl (by (first | lia | omega)) rfl (Nat.lt_of_le_of_lt pt (by decide))
include i2 len l2 d2 in
theorem row10 {bg : Int} (hb : ∃ e : Nat, e < 1000 ∧ bg = 2 ^ e) {x1 x2 : UInt64} {t1 t2 : Tok} (h1 : Fl x1 (-1 * bg * 2 ^ 1074)) (h2 : Fl x2 (1 * bg * 2 ^ 1074)) : RowN ([.float x1 t1] ++ v2 ++ [.float x2 t2]) dat.sum ((v2.length : Int) + 2) := by
  have pt := pt_le len l2 d2
  have hv := lenv2 i2 len l2
  obtain ⟨e, he, rfl⟩ := hb
  have hbg : (2 ^ e : Int).natAbs < 2 ^ 1000 := by rw [natAbs_pow]; exact Nat.pow_lt_pow_right (by decide) he
  refine row_no (n := v2.length + 2) (((num3_flt h1).app (num3_ints i2 (rep2 d2))).app (num3_flt h2)) (fun z hz => ?_) ?_ (repj (by (first | lia | omega)) (by decide)) (by simp) (by (first | lia | omega)) (by (first | lia | omega)) (Nat.lt_of_le_of_lt pt (by decide))
  · simp only [List.mem_append, List.mem_singleton] at hz
    rcases hz with (rfl | hz) | rfl
    · exact one_le (by rw [Int.neg_mul, Int.one_mul, Int.natAbs_neg]; exact hbg) (by decide)
    · exact map_le d2 (by decide) z hz
    · exact one_le (by rw [Int.one_mul]; exact hbg) (by decide)
  · rw [sumI_app, sumI_app, sumI_one, sumI_one, sumI_map, Int.neg_mul, Int.neg_mul]
    (first | lia | omega)
end
end Mine
end
theorem Mine.anewV5 : True := by
  w_top off
  exact trivial
section
open PySem PySem.W PyProof.Rows
set_option Elab.async false
set_option maxRecDepth 100000
set_option exponentiation.threshold 6000
set_option linter.unusedVariables false
namespace Mine
open Float64
section
variable {prog : Program} {w : World} {v2 v3 v4 : List Value} {sc dat gr wt : List Int} (i2 : IntsAre v2 dat) (i3 : IntsAre v3 gr) (i4 : IntsAre v4 wt) (len : sc.length ≤ 31) (l2 : dat.length = sc.length) (l3 : gr.length = sc.length) (l4 : wt.length = sc.length)
  (d2 : ∀ d ∈ dat, d.natAbs < 2 ^ 40) (d3 : ∀ d ∈ gr, d.natAbs < 2 ^ 900) (d4 : ∀ d ∈ wt, d.natAbs ≤ 8)
include d3 d4 len l3 in
theorem great_le : (List.zipWith (· * ·) gr wt).sum.natAbs ≤ 2 ^ 908 := by
  have h := zip_sumA (A := 2 ^ 900) (B := 8) (fun d h => Nat.le_of_lt (d3 d h)) d4
  have h2 := sumI_le (List.zipWith (· * ·) gr wt)
  rw [sumI_eq] at h2
  refine Nat.le_trans h2 (Nat.le_trans h (Nat.le_trans (Nat.mul_le_mul_right _ (?_ : gr.length ≤ 32)) ?_))
  · (first | lia | omega)
  · rw [show (32 : Nat) = 2 ^ 5 from rfl, show (8 : Nat) = 2 ^ 3 from rfl, ← Nat.pow_add, ← Nat.pow_add]
    exact Nat.pow_le_pow_right (by decide) (by decide)
include i3 i4 len l3 l4 d3 d4 in
theorem row5 {l : Nat} (hl8 : l < 8) {t1 t2 : Tok} : RowW prog w (v3 ++ [.int 1 t1]) (v4 ++ [.int ((2 : Int) ^ l - wt.sum) t2]) ((List.zipWith (· * ·) gr wt).sum + (2 : Int) ^ l - wt.sum) ((2 : Int) ^ l) := by
  have gl := great_le len l3 d3 d4
  have un := un_le len l4 d4
  have hv : v3.length ≤ 31 := by rw [IntsAre.length i3]; (first | lia | omega)
  have hw : v4.length = v3.length := by rw [IntsAre.length i3, IntsAre.length i4]; (first | lia | omega)
  have pl : (2 : Int) ^ l = ((2 ^ l : Nat) : Int) := (pow_cast l).symm
  have pb : 2 ^ l ≤ 2 ^ 7 := Nat.pow_le_pow_right (by decide) (by (first | lia | omega))
  have pp := Nat.two_pow_pos l
  have b9 : (2 : Nat) ^ 909 = 2 ^ 908 * 2 := Nat.pow_succ ..
  have b3 : (2 : Nat) ^ 10 ≤ 2 ^ 908 := Nat.pow_le_pow_right (by decide) (by decide)
  have e : dot (gr ++ [1]) (wt ++ [(2 : Int) ^ l - wt.sum]) = (List.zipWith (· * ·) gr wt).sum + (2 : Int) ^ l - wt.sum := by
    rw [dot_app (by (first | lia | omega)), dot_eq (as := gr) (bs := wt) (by omega)]
    show _ + (1 * ((2 : Int) ^ l - wt.sum) + 0) = _
    (first | lia | omega)
  have hN : ((List.zipWith (· * ·) gr wt).sum + (2 : Int) ^ l - wt.sum).natAbs < 2 ^ 909 := by
    rw [pl]
    generalize (List.zipWith (· * ·) gr wt).sum = G at *
    generalize wt.sum = U at *
    generalize 2 ^ l = L at *
    generalize (2 : Nat) ^ 908 = B at *
    (clear b3 pp pl e hw hv hl8 d4 d3 l4 l3 len i4 i3; omega)
  have hS := sumP_ints (prog := prog) (w := w) (a := 900) (b := 10) (i3.append (ints1 (n := 1) (t := t1))) (i4.append (ints1 (n := (2 : Int) ^ l - wt.sum) (t := t2))) (fun x hx => by
    simp only [List.mem_append, List.mem_singleton] at hx
    rcases hx with hx | rfl
    · exact d3 x hx
    · exact Nat.lt_of_lt_of_le (m := 2 ^ 1) (by decide) (Nat.pow_le_pow_right (by decide) (by decide))) (fun x hx => by
    simp only [List.mem_append, List.mem_singleton] at hx
    rcases hx with hx | rfl
    · have := d4 x hx; (first | lia | omega)
    · rw [pl]; (clear hN e b3 b9 pl hw d4 d3 len i4 i3; omega)) (by decide)
  rw [e] at hS
  have r2 : IntRep ((2 : Int) ^ l - wt.sum) := intRep_small (by rw [pl]; (clear hS hN e b3 b9 pl hw d4 d3 len i4 i3; omega))
  have n3 := (num3_ints i4 (rep4 d4)).app (num3_int (t := t2) r2)
  have hsum : sumI ((wt.map fun n => n * 2 ^ 1074) ++ [((2 : Int) ^ l - wt.sum) * 2 ^ 1074]) = (2 : Int) ^ l * 2 ^ 1074 := by
    rw [sumI_app, sumI_one, sumI_map, Int.sub_mul]
    (first | lia | omega)
  have hz : ∀ z ∈ (wt.map fun n => n * 2 ^ 1074) ++ [((2 : Int) ^ l - wt.sum) * 2 ^ 1074], z.natAbs ≤ 2 ^ 2074 := by
    intro z hz
    simp only [List.mem_append, List.mem_singleton] at hz
    rcases hz with hz | rfl
    · exact map_le (lt4 d4) (by decide) z hz
    · exact one_le (b := 10) (by rw [pl]; omega) (by decide)
  obtain ⟨ok, hd⟩ := fsum_exact n3 hz (by simp; (first | lia | omega)) (by rw [hsum]; exact repj (by rw [pl]; grind) (by decide))
  rw [hsum] at hd
  generalize hN2 : (List.zipWith (· * ·) gr wt).sum + (2 : Int) ^ l - wt.sum = N at *
  have hf : (Nm.i N).fits := fits_small (Nat.lt_of_lt_of_le hN (Nat.pow_le_pow_right (by decide) (by decide)))
  refine ⟨_, .i N, hS, hf, n3.nms, n3.fits, by simp; (first | lia | omega), by simp; (first | lia | omega), ok, .inr (.inr ⟨by simp; (clear hf hS hN e hN2 hd ok hz hsum n3 r2 b3 b9 pp pb pl hv un gl hl8 d4 d3 l4 l3 len i4 i3; grind), two_ne l, ?_, ?_⟩)⟩
  · rw [fl_isZero hd]
    exact decide_eq_false fun z => (Int.mul_eq_zero.mp z).elim (two_ne l) (two_ne 1074)
  · show NearB (Float64.div (ofInt N) _) N (2 ^ l)
    by_cases h0 : N = 0
    · subst h0
      have := fl_ofInt 0 (intRep_small (n := 0) (by decide)).2
      rw [Int.zero_mul] at this
      exact near_zero (div_zero this hd (two_ne l))
    · have hNp : 1 ≤ N.natAbs := by (clear hf hS e hN2 hd ok hz hsum n3 r2 b3 b9 pp pb pl hw hv un gl hl8 d4 d3 l4 l3 len i4 i3; lia)
      have lo74 : 2 ^ 1074 ≤ N.natAbs * 2 ^ 1074 := Nat.le_mul_of_pos_left _ hNp
      have hi74 : N.natAbs * 2 ^ 1074 < 2 ^ 1983 := by
        have := Nat.mul_lt_mul_of_pos_right hN (Nat.two_pow_pos 1074)
        rwa [← Nat.pow_add] at this
      obtain ⟨q, k, hn, hx⟩ := right_near (ofInt_right N) (by decide) (by
        rw [Nat.one_mul]
        exact Nat.le_trans (Nat.pow_le_pow_right (by decide) (by decide)) lo74) (by
        rw [Nat.one_mul]
        have h1 : 2 * (N.natAbs * 2 ^ 1074) < 2 ^ 1984 := by rw [show (2 : Nat) ^ 1984 = 2 ^ 1983 * 2 from Nat.pow_succ ..]; (first | lia | omega)
        have h2 : (2 : Nat) ^ 1984 ≤ 2 ^ 2045 := Nat.pow_le_pow_right (by decide) (by decide)
        have h3 : 1 * 2 ^ 2045 ≤ (2 ^ 54 - 1) * 2 ^ 2045 := Nat.mul_le_mul_right _ (by decide)
        rw [Nat.one_mul] at h3
        exact Nat.lt_of_lt_of_le h1 (Nat.le_trans h2 h3))
      have k1 := hn.k_lo lo74
      have k2 := hn.k_hi hi74
      refine div_pow_near hn hx hd (by (first | lia | omega)) (by (first | lia | omega)) ?_ h0 (by rw [pl]; (clear k2 k1 hx hn hi74 lo74 hNp h0 hf hS hN e hN2 hd ok hz hsum n3 r2 b3 b9 pb pl hw hv un gl hl8 d4 d3 l4 l3 len i4 i3; omega)) rfl (Nat.lt_of_lt_of_le hN (Nat.pow_le_pow_right (by decide) (by decide))) ?_
      · rw [natAbs_pow]
      · rw [natAbs_pow]; exact Nat.pow_lt_pow_right (by decide) (by (first | lia | omega))
include i2 i4 len l2 l4 d2 d4 in
theorem row12 {f1 f2 : UInt64} {k1 k2 k3 k4 t1 t2 t3 t4 : Tok} {ys : List Value} (h1 : Fl f1 (1 * 2 ^ 900 * 2 ^ 1074)) (h2 : Fl f2 (1 * 2 ^ 300 * 2 ^ 1074)) (hp : Paired GOne v4 ys) :
    RowW prog w ([.int 0 t1, .int 0 t2] ++ v2 ++ [.int 0 t3, .int 0 t4]) ([.float f1 k1, .float f2 k2] ++ ys ++ [.float (Float64.neg f2) k3, .float (Float64.neg f1) k4]) (List.zipWith (· * ·) dat wt).sum wt.sum := by
  obtain ⟨oA, ov⟩ := over_le len l2 l4 d2 d4
  have un := un_le len l4 d4
  rw [Int.one_mul] at h1 h2
  have r0 : IntRep 0 := intRep_small (by decide)
  obtain ⟨bs, n2, hb⟩ := num3_one hp i4
  have n1 := (((num3_int (t := t1) r0).app (num3_int (t := t2) r0)).app (num3_ints i2 (rep2 d2))).app ((num3_int (t := t3) r0).app (num3_int (t := t4) r0))
  have m2 := (((num3_flt (t := k1) h1).app (num3_flt (t := k2) h2)).app n2).app ((num3_flt (t := k3) (fl_neg h2)).app (num3_flt (t := k4) (fl_neg h1)))
  have hl : ([Value.int 0 t1, Value.int 0 t2] ++ v2 ++ [Value.int 0 t3, Value.int 0 t4]).length = ([Value.float f1 k1, Value.float f2 k2] ++ ys ++ [Value.float (Float64.neg f2) k3, Value.float (Float64.neg f1) k4]).length := by
    have := (len24 i2 i4 l2 l4).trans hp.length
    simp; omega
  have z : ∀ b : Int, (0 * 2 ^ 1074 : Int) * b = 2 ^ 1074 * (0 * 2 ^ 1074) := fun b => by simp
  have hM : Mul3 1074 ([0 * 2 ^ 1074] ++ [0 * 2 ^ 1074] ++ (dat.map fun n => n * 2 ^ 1074) ++ ([0 * 2 ^ 1074] ++ [0 * 2 ^ 1074])) ([2 ^ 900 * 2 ^ 1074] ++ [2 ^ 300 * 2 ^ 1074] ++ (wt.map fun n => n * 2 ^ 1074) ++ ([-(2 ^ 300 * 2 ^ 1074)] ++ [-(2 ^ 900 * 2 ^ 1074)])) ([0] ++ [0] ++ List.zipWith (· * ·) dat wt ++ ([0] ++ [0])) :=
    (((Mul3.cons (z _) .nil).app (.cons (z _) .nil)).app (mul3_map (i := 1074) (j := 1074) (m := 1074) rfl (by (first | lia | omega)))).app ((Mul3.cons (z _) .nil).app (.cons (z _) .nil))
  have hP := mul3_prs hM n1.fll m2.fll
  obtain ⟨ok, ft, fl⟩ := sprod_all (by decide) hP (by
    rw [sumA_app, sumA_app]
    show 0 + sumA _ + 0 ≤ _
    (first | lia | omega))
  have eS : sumI ([0] ++ [0] ++ List.zipWith (· * ·) dat wt ++ ([0] ++ [0])) = (List.zipWith (· * ·) dat wt).sum := by
    rw [sumI_app, sumI_app, sumI_eq (List.zipWith (· * ·) dat wt)]
    show 0 + _ + 0 = _
    (first | lia | omega)
  rw [eS] at fl
  refine row_eq (j := 1074) (sumP_flts n1 m2 hl (.inr fun b h => ?_) ok) ft fl m2 (fun q hq => ?_) ?_ (repj (by (first | lia | omega)) (by decide)) hl ?_ (Nat.lt_of_le_of_lt ov (by decide)) (by (first | lia | omega))
  · simp only [List.mem_append, List.mem_singleton] at h
    rcases h with ((rfl | rfl) | h) | (rfl | rfl)
    · rfl
    · rfl
    · exact hb b h
    · rfl
    · rfl
  · have b9 : ((2 : Int) ^ 900).natAbs < 2 ^ 1000 := by rw [natAbs_pow]; exact Nat.pow_lt_pow_right (by decide) (by decide)
    have b3 : ((2 : Int) ^ 300).natAbs < 2 ^ 1000 := by rw [natAbs_pow]; exact Nat.pow_lt_pow_right (by decide) (by decide)
    simp only [List.mem_append, List.mem_singleton] at hq
    rcases hq with ((rfl | rfl) | hq) | (rfl | rfl)
    · exact one_le b9 (by decide)
    · exact one_le b3 (by decide)
    · exact map_le (lt4 d4) (by decide) q hq
    · rw [Int.natAbs_neg]; exact one_le b3 (by decide)
    · rw [Int.natAbs_neg]; exact one_le b9 (by decide)
  · rw [sumI_app, sumI_app, sumI_app, sumI_app, sumI_one, sumI_one, sumI_one, sumI_one, sumI_map]
    generalize (2 : Int) ^ 900 * 2 ^ 1074 = A
    generalize (2 : Int) ^ 300 * 2 ^ 1074 = B
    (first | lia | omega)
  · have := lenv2 i2 len l2
    simp; (first | lia | omega)
end
theorem num3_flts {ks : List Int} : ∀ {vs : List Value}, FltAre vs ks → ∃ as, Num3 vs as (ks.map fun k => fpart k * fsize k * 2 ^ 974) := by
  induction ks with
  | nil =>
    intro vs h
    have : vs = [] := List.eq_nil_of_length_eq_zero h.1
    subst this
    exact ⟨[], .nil⟩
  | cons k ks ih =>
    intro vs h
    cases vs with
    | nil => exact absurd h.1 (by simp)
    | cons v vs =>
      obtain ⟨k', x, t, hk, rfl, hx⟩ := h.2 0 v rfl
      have : k' = k := by simpa using hk.symm
      subst this
      obtain ⟨as, h1⟩ := ih (vs := vs) ⟨by simpa using h.1, fun i u hu => by
        obtain ⟨k2, y, t2, a, b, c⟩ := h.2 (i + 1) u (by simpa using hu)
        exact ⟨k2, y, t2, by simpa using a, b, c⟩⟩
      exact ⟨.f x :: as, .cons ⟨t, rfl⟩ trivial hx h1⟩
theorem num3_zeros {tk : Tok} : ∀ K : Nat, ∃ as zs, Num3 (List.replicate K (Value.float 0 tk)) as zs ∧ sumI zs = 0 ∧ ∀ z ∈ zs, z = 0
  | 0 => ⟨[], [], .nil, rfl, fun z h => by cases h⟩
  | K + 1 => by
    obtain ⟨as, zs, h, hs, hz⟩ := num3_zeros (tk := tk) K
    refine ⟨.f 0 :: as, 0 :: zs, .cons ⟨tk, rfl⟩ trivial (fl_zero false) h, ?_, fun z q => ?_⟩
    · show 0 + sumI zs = 0
      (first | lia | omega)
    · rcases List.mem_cons.mp q with rfl | q
      · rfl
      · exact hz z q
theorem row11 {sc : List Int} {v5 : List Value} {K : Nat} {tk : Tok} (len : sc.length ≤ 31) (hF : FltAre v5 sc) {b : Nat} (hb : b ≤ 5) (hK : K + sc.length = 2 ^ b) : RowN (v5 ++ List.replicate K (Value.float 0 tk)) (fsum0 sc) (((v5 ++ List.replicate K (Value.float 0 tk)).length : Int) * 2 ^ 100) := by
  obtain ⟨as, n1⟩ := num3_flts hF
  obtain ⟨bs, zs, n2, hs, hz⟩ := num3_zeros (tk := tk) K
  have n3 := n1.app n2
  have hlen : (v5 ++ List.replicate K (Value.float 0 tk)).length = 2 ^ b := by
    rw [List.length_append, List.length_replicate, hF.1]; (first | lia | omega)
  have pb : 2 ^ b ≤ 2 ^ 5 := Nat.pow_le_pow_right (by decide) hb
  have pp := Nat.two_pow_pos b
  have one : ∀ k ∈ sc, (fpart k * fsize k).natAbs < 2 ^ 255 := fun k _ => natAbs_mul_lt (fpart_lt k) (fsize_lt k)
  have em : sc.map (fun k => fpart k * fsize k * 2 ^ 974) = (sc.map fun k => fpart k * fsize k).map fun n => n * 2 ^ 974 := by rw [List.map_map]; rfl
  have one' : ∀ d ∈ sc.map (fun k => fpart k * fsize k), d.natAbs < 2 ^ 255 := fun d hd => by
    obtain ⟨k, hk, rfl⟩ := List.mem_map.mp hd
    exact one k hk
  have hS : sumI (sc.map (fun k => fpart k * fsize k * 2 ^ 974) ++ zs) = fsum0 sc * 2 ^ 974 := by
    rw [sumI_app, hs, em, sumI_map, Int.add_zero]; rfl
  have hle : (fsum0 sc).natAbs < 2 ^ 261 := by
    have h := sum_bound (A := 2 ^ 255) (fun d h => Nat.le_of_lt (one' d h))
    rw [List.length_map] at h
    have h2 : sc.length * 2 ^ 255 ≤ 31 * 2 ^ 255 := Nat.mul_le_mul_right _ len
    have h3 : (2 : Nat) ^ 261 = 64 * 2 ^ 255 := by rw [show (261 : Nat) = 6 + 255 from rfl, Nat.pow_add]
    have h4 := Nat.two_pow_pos 255
    show (fsum0 sc).natAbs < _
    unfold fsum0
    rw [h3]
    generalize (2 : Nat) ^ 255 = B at *
    (first | lia | omega)
  obtain ⟨ok, Z, hf, hd⟩ := fsum_rd n3.fll (fun X hX => by
    rcases List.mem_append.mp hX with h | h
    · rw [em] at h
      exact map_le one' (by decide) X h
    · rw [hz X h]; exact Nat.zero_le _) (by rw [List.length_map, ← n3.len.1, hlen]; (clear hle hS one' em one pp hlen n3 hz hs n2 n1 hK hb hF len; lia))
  rw [hS] at hd
  refine ⟨_, n3.nms, n3.fits, by have := n3.len.1; (clear hd hf ok hle hS one' em one pp n3 hz hs n2 n1 hK hb hF len; grind), ok, .inr ⟨by (clear hd hf ok hle hS one' em one pb n3 hz hs n2 n1 hK hb hF len; grind), ?_, ?_⟩⟩
  · rw [hlen]
    intro q
    rcases Int.mul_eq_zero.mp q with q | q
    · (clear q hd hf ok hle hS one' em one pb hlen n3 hz hs n2 n1 hK hb hF len; grind)
    · exact two_ne 100 q
  · rw [hlen]
    have hy := fl_ofInt ((2 ^ b : Nat) : Int) (intRep_small (by grind)).2
    have e1 : ((2 ^ b : Nat) : Int) * 2 ^ 100 = 2 ^ (b + 100) := by rw [pow_cast, ← Int.pow_add]
    by_cases h0 : fsum0 sc = 0
    · have hZ := rd_rep hd (by rw [h0, Int.zero_mul]; exact rep_zero)
      rw [h0, Int.zero_mul] at hZ
      rw [hZ] at hf
      rw [h0]
      exact near_zero (div_zero (u := ((2 ^ b : Nat) : Int)) hf hy (by (clear hZ h0 e1 hy hd hf ok hle hS one' em one pb hlen n3 hz hs n2 n1 hK hb hF len; grind)))
    · obtain ⟨z, hr, hZ⟩ := hd
      have h974 := Nat.two_pow_pos 974
      have lo : 2 ^ 974 ≤ (fsum0 sc * 2 ^ 974).natAbs := by
        rw [Int.natAbs_mul, natAbs_pow]
        exact Nat.le_mul_of_pos_left _ (by (first | lia | omega))
      have hi : (fsum0 sc * 2 ^ 974).natAbs < 2 ^ 1235 := by
        rw [Int.natAbs_mul, natAbs_pow]
        have := Nat.mul_lt_mul_of_pos_right hle h974
        rwa [← Nat.pow_add] at this
      obtain ⟨q, k, hn, rfl⟩ := rn_near hr (Nat.le_trans (Nat.pow_le_pow_right (by decide) (by decide)) lo)
      rw [hZ] at hf
      have k1 := hn.k_lo lo
      have k2 := hn.k_hi hi
      rw [e1]
      rw [pow_cast] at hy ⊢
      refine div_pow_near hn hf hy (by (first | lia | omega)) (by (first | lia | omega)) ?_ h0 (by rw [← pow_cast]; have := Nat.two_pow_pos (b + 100); (clear k2 k1 hZ hr hn hf hi lo h974 h0 e1 hy ok hle hS one' em one pp pb hlen n3 hz hs n2 n1 hK hb hF len; omega)) ?_ (Nat.lt_of_lt_of_le hle (Nat.pow_le_pow_right (by decide) (by decide))) (by rw [natAbs_pow]; exact Nat.pow_lt_pow_right (by decide) (by (first | lia | omega)))
      · rw [natAbs_pow, Int.natAbs_mul, natAbs_pow, Nat.mul_assoc, Nat.mul_assoc, ← Nat.pow_add, ← Nat.pow_add]
        congr 2; (first | lia | omega)
      · have hp : (0 : Int) < 2 ^ 974 := by rw [← pow_cast]; (first | lia | omega)
        by_cases hneg : fsum0 sc < 0
        · rw [decide_eq_true hneg, decide_eq_true (Int.mul_neg_of_neg_of_pos hneg hp)]
        · have : 0 ≤ fsum0 sc * 2 ^ 974 := Int.mul_nonneg (by (clear hp k2 k1 hZ hr hn hf hi lo h974 h0 e1 hy ok hle hS one' em one pp pb hlen n3 hz hs n2 n1 hK hb hF len; lia)) (Int.le_of_lt hp)
          rw [decide_eq_false hneg, decide_eq_false (by (clear this hp k2 k1 hZ hr hn hf hi lo h974 h0 e1 hy ok hle hS one' em one pp pb hlen n3 hz hs n2 n1 hK hb hF len; lia))]
end Mine
end
theorem Mine.anewT1 : True := by
  w_top off
  exact trivial
section
open PySem PySem.W PyProof.Rows PySem.Calls
set_option Elab.async false
set_option maxRecDepth 100000
set_option maxHeartbeats 2000000
set_option exponentiation.threshold 3000
set_option linter.unusedVariables false
namespace Mine
theorem elem1 {w : World} {p : Program} {loose : List Str} {mean : ExcName → Option Value} {mg mb : Str → Option Value} {base g : Heap} {s : Shared} {Q E : Value → Shared → Prop} {L' : Addr} {m : Str → Option Value} {S : Scope} {e : Expr} (eS : S = defS 8) (ee : e = eltE 0)
   (B : Below callerA base [] g) (X : (hd2.heap_39 w.params).In base) (T : Top p loose mean mg mb base)
   {a2 a3 a4 a5 a6 : Addr} {v2 v3 v4 v5 : List Value} {o2 o3 o4 o5 : Obj} {dat gr wt : List Int} {ov un pt bg wh us : Int} {u1 u2 u3 u4 u5 u6 : Tok} {f1 f2 : UInt64} {k1 k2 : Tok} {more : List (Addr × Obj)}
   (F : Fr g L' s.heap m) (M : LawM m a2 a3 a4 a5 a6 ov un pt bg wh us u1 u2 u3 u4 u5 u6)
   (N : News g L' s.heap ((a6, W.listOf #[.float f1 k1, .float f2 k2] 0) :: (a5, o5) :: (a4, o4) :: (a3, o3) :: (a2, o2) :: more))
   (lo2 : LObj o2 v2) (lo3 : LObj o3 v3) (lo4 : LObj o4 v4) (lo5 : LObj o5 v5) (hl2 : v2.length ≤ 31) (hl3 : v3.length ≤ 31) (hl4 : v4.length ≤ 31) (hl5 : v5.length ≤ 64) (i2 : IntsAre v2 dat) (i3 : IntsAre v3 gr) (i4 : IntsAre v4 wt) 
   (k : ∀ v s' more', s'.gens = s.gens → s'.drawn = s.drawn → s'.os = s.os → (∀ q ∈ ((a6, W.listOf #[.float f1 k1, .float f2 k2] 0) :: (a5, o5) :: (a4, o4) :: (a3, o3) :: (a2, o2) :: more : List (Addr × Obj)), q ∈ more') → Fr g L' s'.heap m → News g L' s'.heap more' → HasW more' v (fun vs ws o u => vs = v2 ∧ ws = v4 ∧ o = ov ∧ u = un) → Q v s') :
   wpAny (model PySem.Challenge.rw_kp0013_02.row.prog w) (callerA.deeper (envOf "law" S L' 89 (.ref 88))) (eval e (envOf "law" S L' 89 (.ref 88))) Q E s := by
  revert X; k_fill; intro X
  have Xg := X.keeps B.stays
  have Tg := T.keeps B.stays
  conv at eS => rhs; whnf
  conv at ee => rhs; whnf
  subst eS ee
  have eM := M.pin
  rw [eM] at F
  clear M
  (repeat' ((fail_if_success (with_reducible first | show ∃ _, _ | show wpAny _ _ (eval (Expr.ListComp _ _ _ _) _) _ _ _ | show wpAny _ _ (binaryOp .Mult _ _) _ _ _ | show wpAny _ _ (binaryOp .Pow _ _) _ _ _ | show wpAny _ _ (call (Value.builtin "len") _) _ _ _ | show wpAny _ _ (binaryOp .Add (Value.ref _) (Value.ref _)) _ _ _)); first | (k_unfold; (try dsimp only)) | walk1 | (dsimp only; walk1)))
  rename Fr _ _ _ _ => F
  rename News _ _ _ _ => N
  refine k _ _ _ rfl rfl rfl (fun q hq => by repeat (first | exact hq | apply List.mem_cons_of_mem)) (by rw [eM]; exact F) N ⟨_, _, _, _, _, _, _, _, _, _, _, _, rfl, (by ((repeat (first | exact List.mem_cons_self | apply List.mem_cons_of_mem)))), (by ((repeat (first | exact List.mem_cons_self | apply List.mem_cons_of_mem)))), (by first | assumption | exact .of), (by ((repeat (first | exact List.mem_cons_self | apply List.mem_cons_of_mem)))), (by first | assumption | exact .of), rfl, rfl, rfl, rfl⟩
end Mine
end
theorem Mine.anewT2 : True := by
  w_top off
  exact trivial
section
open PySem PySem.W PyProof.Rows PySem.Calls
set_option Elab.async false
set_option maxRecDepth 100000
set_option maxHeartbeats 2000000
set_option exponentiation.threshold 3000
set_option linter.unusedVariables false
namespace Mine
theorem elem2 {w : World} {p : Program} {loose : List Str} {mean : ExcName → Option Value} {mg mb : Str → Option Value} {base g : Heap} {s : Shared} {Q E : Value → Shared → Prop} {L' : Addr} {m : Str → Option Value} {S : Scope} {e : Expr} (eS : S = defS 8) (ee : e = eltE 1)
   (B : Below callerA base [] g) (X : (hd2.heap_39 w.params).In base) (T : Top p loose mean mg mb base)
   {a2 a3 a4 a5 a6 : Addr} {v2 v3 v4 v5 : List Value} {o2 o3 o4 o5 : Obj} {dat gr wt : List Int} {ov un pt bg wh us : Int} {u1 u2 u3 u4 u5 u6 : Tok} {f1 f2 : UInt64} {k1 k2 : Tok} {more : List (Addr × Obj)}
   (F : Fr g L' s.heap m) (M : LawM m a2 a3 a4 a5 a6 ov un pt bg wh us u1 u2 u3 u4 u5 u6)
   (N : News g L' s.heap ((a6, W.listOf #[.float f1 k1, .float f2 k2] 0) :: (a5, o5) :: (a4, o4) :: (a3, o3) :: (a2, o2) :: more))
   (lo2 : LObj o2 v2) (lo3 : LObj o3 v3) (lo4 : LObj o4 v4) (lo5 : LObj o5 v5) (hl2 : v2.length ≤ 31) (hl3 : v3.length ≤ 31) (hl4 : v4.length ≤ 31) (hl5 : v5.length ≤ 64) (i2 : IntsAre v2 dat) (i3 : IntsAre v3 gr) (i4 : IntsAre v4 wt) 
   (k : ∀ v s' more', s'.gens = s.gens → s'.drawn = s.drawn → s'.os = s.os → (∀ q ∈ ((a6, W.listOf #[.float f1 k1, .float f2 k2] 0) :: (a5, o5) :: (a4, o4) :: (a3, o3) :: (a2, o2) :: more : List (Addr × Obj)), q ∈ more') → Fr g L' s'.heap m → News g L' s'.heap more' → HasW more' v (fun vs ws o u => (∃ t t', vs = [.int pt t] ++ v2 ++ [.int pt t']) ∧ (∃ t t', ws = [.int bg t] ++ v4 ++ [.int (-bg) t']) ∧ o = ov ∧ u = un) → Q v s') :
   wpAny (model PySem.Challenge.rw_kp0013_02.row.prog w) (callerA.deeper (envOf "law" S L' 89 (.ref 88))) (eval e (envOf "law" S L' 89 (.ref 88))) Q E s := by
  revert X; k_fill; intro X
  have Xg := X.keeps B.stays
  have Tg := T.keeps B.stays
  conv at eS => rhs; whnf
  conv at ee => rhs; whnf
  subst eS ee
  have eM := M.pin
  rw [eM] at F
  clear M
  (repeat' ((fail_if_success (with_reducible first | show ∃ _, _ | show wpAny _ _ (eval (Expr.ListComp _ _ _ _) _) _ _ _ | show wpAny _ _ (binaryOp .Mult _ _) _ _ _ | show wpAny _ _ (binaryOp .Pow _ _) _ _ _ | show wpAny _ _ (call (Value.builtin "len") _) _ _ _ | show wpAny _ _ (binaryOp .Add (Value.ref _) (Value.ref _)) _ _ _)); first | (k_unfold; (try dsimp only)) | walk1 | (dsimp only; walk1)))
  rename Fr _ _ _ _ => F
  rename News _ _ _ _ => N
  refine add_L F N (by ((repeat (first | exact List.mem_cons_self | apply List.mem_cons_of_mem)))) (by first | assumption | exact .of) (by ((repeat (first | exact List.mem_cons_self | apply List.mem_cons_of_mem)))) (by first | assumption | exact .of) (by simp; try omega) (fun _ _ _ _ => ?_)
  clear F N
  (repeat' ((fail_if_success (with_reducible first | show ∃ _, _ | show wpAny _ _ (eval (Expr.ListComp _ _ _ _) _) _ _ _ | show wpAny _ _ (binaryOp .Mult _ _) _ _ _ | show wpAny _ _ (binaryOp .Pow _ _) _ _ _ | show wpAny _ _ (call (Value.builtin "len") _) _ _ _ | show wpAny _ _ (binaryOp .Add (Value.ref _) (Value.ref _)) _ _ _)); first | (k_unfold; (try dsimp only)) | walk1 | (dsimp only; walk1)))
  rename Fr _ _ _ _ => F
  rename News _ _ _ _ => N
  refine add_L F N (by ((repeat (first | exact List.mem_cons_self | apply List.mem_cons_of_mem)))) (by first | assumption | exact .of) (by ((repeat (first | exact List.mem_cons_self | apply List.mem_cons_of_mem)))) (by first | assumption | exact .of) (by simp; try omega) (fun _ _ _ _ => ?_)
  clear F N
  (repeat' ((fail_if_success (with_reducible first | show ∃ _, _ | show wpAny _ _ (eval (Expr.ListComp _ _ _ _) _) _ _ _ | show wpAny _ _ (binaryOp .Mult _ _) _ _ _ | show wpAny _ _ (binaryOp .Pow _ _) _ _ _ | show wpAny _ _ (call (Value.builtin "len") _) _ _ _ | show wpAny _ _ (binaryOp .Add (Value.ref _) (Value.ref _)) _ _ _)); first | (k_unfold; (try dsimp only)) | walk1 | (dsimp only; walk1)))
  rename Fr _ _ _ _ => F
  rename News _ _ _ _ => N
  refine add_L F N (by ((repeat (first | exact List.mem_cons_self | apply List.mem_cons_of_mem)))) (by first | assumption | exact .of) (by ((repeat (first | exact List.mem_cons_self | apply List.mem_cons_of_mem)))) (by first | assumption | exact .of) (by simp; try omega) (fun _ _ _ _ => ?_)
  clear F N
  (repeat' ((fail_if_success (with_reducible first | show ∃ _, _ | show wpAny _ _ (eval (Expr.ListComp _ _ _ _) _) _ _ _ | show wpAny _ _ (binaryOp .Mult _ _) _ _ _ | show wpAny _ _ (binaryOp .Pow _ _) _ _ _ | show wpAny _ _ (call (Value.builtin "len") _) _ _ _ | show wpAny _ _ (binaryOp .Add (Value.ref _) (Value.ref _)) _ _ _)); first | (k_unfold; (try dsimp only)) | walk1 | (dsimp only; walk1)))
  rename Fr _ _ _ _ => F
  rename News _ _ _ _ => N
  refine add_L F N (by ((repeat (first | exact List.mem_cons_self | apply List.mem_cons_of_mem)))) (by first | assumption | exact .of) (by ((repeat (first | exact List.mem_cons_self | apply List.mem_cons_of_mem)))) (by first | assumption | exact .of) (by simp; try omega) (fun _ _ _ _ => ?_)
  clear F N
  (repeat' ((fail_if_success (with_reducible first | show ∃ _, _ | show wpAny _ _ (eval (Expr.ListComp _ _ _ _) _) _ _ _ | show wpAny _ _ (binaryOp .Mult _ _) _ _ _ | show wpAny _ _ (binaryOp .Pow _ _) _ _ _ | show wpAny _ _ (call (Value.builtin "len") _) _ _ _ | show wpAny _ _ (binaryOp .Add (Value.ref _) (Value.ref _)) _ _ _)); first | (k_unfold; (try dsimp only)) | walk1 | (dsimp only; walk1)))
  rename Fr _ _ _ _ => F
  rename News _ _ _ _ => N
  refine k _ _ _ rfl rfl rfl (fun q hq => by repeat (first | exact hq | apply List.mem_cons_of_mem)) (by rw [eM]; exact F) N ⟨_, _, _, _, _, _, _, _, _, _, _, _, rfl, (by ((repeat (first | exact List.mem_cons_self | apply List.mem_cons_of_mem)))), (by ((repeat (first | exact List.mem_cons_self | apply List.mem_cons_of_mem)))), (by first | assumption | exact .of), (by ((repeat (first | exact List.mem_cons_self | apply List.mem_cons_of_mem)))), (by first | assumption | exact .of), ⟨_, _, rfl⟩, ⟨_, _, rfl⟩, rfl, rfl⟩
end Mine
end
theorem Mine.anewT3 : True := by
  w_top off
  exact trivial
section
open PySem PySem.W PyProof.Rows PySem.Calls
set_option Elab.async false
set_option maxRecDepth 100000
set_option maxHeartbeats 2000000
set_option exponentiation.threshold 3000
set_option linter.unusedVariables false
namespace Mine
theorem elem3 {w : World} {p : Program} {loose : List Str} {mean : ExcName → Option Value} {mg mb : Str → Option Value} {base g : Heap} {s : Shared} {Q E : Value → Shared → Prop} {L' : Addr} {m : Str → Option Value} {S : Scope} {e : Expr} (eS : S = defS 8) (ee : e = eltE 2)
   (B : Below callerA base [] g) (X : (hd2.heap_39 w.params).In base) (T : Top p loose mean mg mb base)
   {a2 a3 a4 a5 a6 : Addr} {v2 v3 v4 v5 : List Value} {o2 o3 o4 o5 : Obj} {dat gr wt : List Int} {ov un pt bg wh us : Int} {u1 u2 u3 u4 u5 u6 : Tok} {f1 f2 : UInt64} {k1 k2 : Tok} {more : List (Addr × Obj)}
   (F : Fr g L' s.heap m) (M : LawM m a2 a3 a4 a5 a6 ov un pt bg wh us u1 u2 u3 u4 u5 u6)
   (N : News g L' s.heap ((a6, W.listOf #[.float f1 k1, .float f2 k2] 0) :: (a5, o5) :: (a4, o4) :: (a3, o3) :: (a2, o2) :: more))
   (lo2 : LObj o2 v2) (lo3 : LObj o3 v3) (lo4 : LObj o4 v4) (lo5 : LObj o5 v5) (hl2 : v2.length ≤ 31) (hl3 : v3.length ≤ 31) (hl4 : v4.length ≤ 31) (hl5 : v5.length ≤ 64) (i2 : IntsAre v2 dat) (i3 : IntsAre v3 gr) (i4 : IntsAre v4 wt) (b2 : ∀ v ∈ v2, ∃ n t, v = .int n t ∧ n.natAbs < 2 ^ 40) (bu : un.natAbs < 2 ^ 20)
   (k : ∀ v s' more', s'.gens = s.gens → s'.drawn = s.drawn → s'.os = s.os → (∀ q ∈ ((a6, W.listOf #[.float f1 k1, .float f2 k2] 0) :: (a5, o5) :: (a4, o4) :: (a3, o3) :: (a2, o2) :: more : List (Addr × Obj)), q ∈ more') → Fr g L' s'.heap m → News g L' s'.heap more' → HasW more' v (fun vs ws o u => Paired (GDiv 3) v2 vs ∧ ws = v4 ∧ o = ov ∧ u = 8 * un) → Q v s') :
   wpAny (model PySem.Challenge.rw_kp0013_02.row.prog w) (callerA.deeper (envOf "law" S L' 89 (.ref 88))) (eval e (envOf "law" S L' 89 (.ref 88))) Q E s := by
  revert X; k_fill; intro X
  have Xg := X.keeps B.stays
  have Tg := T.keeps B.stays
  conv at eS => rhs; whnf
  conv at ee => rhs; whnf
  subst eS ee
  have eM := M.pin
  rw [eM] at F
  clear M
  (repeat' ((fail_if_success (with_reducible first | show ∃ _, _ | show wpAny _ _ (eval (Expr.ListComp _ _ _ _) _) _ _ _ | show wpAny _ _ (binaryOp .Mult _ _) _ _ _ | show wpAny _ _ (binaryOp .Pow _ _) _ _ _ | show wpAny _ _ (call (Value.builtin "len") _) _ _ _ | show wpAny _ _ (binaryOp .Add (Value.ref _) (Value.ref _)) _ _ _)); first | (k_unfold; (try dsimp only)) | walk1 | (dsimp only; walk1)))
  rename Fr _ _ _ _ => F
  rename News _ _ _ _ => N
  refine lc_map (GDiv 3) (rv := v2) rfl (fun Q' h => nameX_L F (by rfl) h) (lo2.is (N (a2, o2) (by ((repeat (first | exact List.mem_cons_self | apply List.mem_cons_of_mem))))).1) (by omega) ?elt ?fin
  case elt =>
    intro C v s₃ m₃ E'' hv hn3 hm3 old
    obtain ⟨n, t, rfl, bn⟩ := b2 v hv
    exact elt_div (k := 3) rfl hn3 hm3 (by decide) (by decide) (Nat.lt_of_lt_of_le bn (Nat.pow_le_pow_right (by decide) (by decide))) (rep_small bn (by decide) (by decide)) (fun r tk hf => ⟨n, t, r, tk, rfl, rfl, hf⟩) rfl rfl (by decide)
  intro D h7 tk7 ys k7 nD hD hp
  obtain ⟨F1, oD, N1, lD⟩ := new_L F N k7 nD hD
  clear F N hD k7 nD
  (repeat' ((fail_if_success (with_reducible first | show ∃ _, _ | show wpAny _ _ (eval (Expr.ListComp _ _ _ _) _) _ _ _ | show wpAny _ _ (binaryOp .Mult _ _) _ _ _ | show wpAny _ _ (binaryOp .Pow _ _) _ _ _ | show wpAny _ _ (call (Value.builtin "len") _) _ _ _ | show wpAny _ _ (binaryOp .Add (Value.ref _) (Value.ref _)) _ _ _)); first | (k_unfold; (try dsimp only)) | walk1 | (dsimp only; walk1)))
  refine mul_to (v := 8 * un) (m := 4) (n := 20) rfl (by decide) bu (by decide) ?_
  (repeat' ((fail_if_success (with_reducible first | show ∃ _, _ | show wpAny _ _ (eval (Expr.ListComp _ _ _ _) _) _ _ _ | show wpAny _ _ (binaryOp .Mult _ _) _ _ _ | show wpAny _ _ (binaryOp .Pow _ _) _ _ _ | show wpAny _ _ (call (Value.builtin "len") _) _ _ _ | show wpAny _ _ (binaryOp .Add (Value.ref _) (Value.ref _)) _ _ _)); first | (k_unfold; (try dsimp only)) | walk1 | (dsimp only; walk1)))
  rename Fr _ _ _ _ => F
  rename News _ _ _ _ => N
  refine k _ _ _ rfl rfl rfl (fun q hq => by repeat (first | exact hq | apply List.mem_cons_of_mem)) (by rw [eM]; exact F) N ⟨_, _, _, _, _, _, _, _, _, _, _, _, rfl, (by ((repeat (first | exact List.mem_cons_self | apply List.mem_cons_of_mem)))), (by ((repeat (first | exact List.mem_cons_self | apply List.mem_cons_of_mem)))), (by first | assumption | exact .of), (by ((repeat (first | exact List.mem_cons_self | apply List.mem_cons_of_mem)))), (by first | assumption | exact .of), hp, rfl, rfl, rfl⟩
end Mine
end
theorem Mine.anewT4 : True := by
  w_top off
  exact trivial
section
open PySem PySem.W PyProof.Rows PySem.Calls
set_option Elab.async false
set_option maxRecDepth 100000
set_option maxHeartbeats 2000000
set_option exponentiation.threshold 3000
set_option linter.unusedVariables false
namespace Mine
theorem elem4 {w : World} {p : Program} {loose : List Str} {mean : ExcName → Option Value} {mg mb : Str → Option Value} {base g : Heap} {s : Shared} {Q E : Value → Shared → Prop} {L' : Addr} {m : Str → Option Value} {S : Scope} {e : Expr} (eS : S = defS 8) (ee : e = eltE 3)
   (B : Below callerA base [] g) (X : (hd2.heap_39 w.params).In base) (T : Top p loose mean mg mb base)
   {a2 a3 a4 a5 a6 : Addr} {v2 v3 v4 v5 : List Value} {o2 o3 o4 o5 : Obj} {dat gr wt : List Int} {ov un pt bg wh us : Int} {u1 u2 u3 u4 u5 u6 : Tok} {f1 f2 : UInt64} {k1 k2 : Tok} {more : List (Addr × Obj)}
   (F : Fr g L' s.heap m) (M : LawM m a2 a3 a4 a5 a6 ov un pt bg wh us u1 u2 u3 u4 u5 u6)
   (N : News g L' s.heap ((a6, W.listOf #[.float f1 k1, .float f2 k2] 0) :: (a5, o5) :: (a4, o4) :: (a3, o3) :: (a2, o2) :: more))
   (lo2 : LObj o2 v2) (lo3 : LObj o3 v3) (lo4 : LObj o4 v4) (lo5 : LObj o5 v5) (hl2 : v2.length ≤ 31) (hl3 : v3.length ≤ 31) (hl4 : v4.length ≤ 31) (hl5 : v5.length ≤ 64) (i2 : IntsAre v2 dat) (i3 : IntsAre v3 gr) (i4 : IntsAre v4 wt) (b4 : ∀ v ∈ v4, ∃ n t, v = .int n t ∧ n.natAbs < 2 ^ 4)
   (k : ∀ v s' more', s'.gens = s.gens → s'.drawn = s.drawn → s'.os = s.os → (∀ q ∈ ((a6, W.listOf #[.float f1 k1, .float f2 k2] 0) :: (a5, o5) :: (a4, o4) :: (a3, o3) :: (a2, o2) :: more : List (Addr × Obj)), q ∈ more') → Fr g L' s'.heap m → News g L' s'.heap more' → HasW more' v (fun vs ws o u => vs = v2 ∧ Paired (GDiv 2) v4 ws ∧ o = ov ∧ u = un) → Q v s') :
   wpAny (model PySem.Challenge.rw_kp0013_02.row.prog w) (callerA.deeper (envOf "law" S L' 89 (.ref 88))) (eval e (envOf "law" S L' 89 (.ref 88))) Q E s := by
  revert X; k_fill; intro X
  have Xg := X.keeps B.stays
  have Tg := T.keeps B.stays
  conv at eS => rhs; whnf
  conv at ee => rhs; whnf
  subst eS ee
  have eM := M.pin
  rw [eM] at F
  clear M
  (repeat' ((fail_if_success (with_reducible first | show ∃ _, _ | show wpAny _ _ (eval (Expr.ListComp _ _ _ _) _) _ _ _ | show wpAny _ _ (binaryOp .Mult _ _) _ _ _ | show wpAny _ _ (binaryOp .Pow _ _) _ _ _ | show wpAny _ _ (call (Value.builtin "len") _) _ _ _ | show wpAny _ _ (binaryOp .Add (Value.ref _) (Value.ref _)) _ _ _)); first | (k_unfold; (try dsimp only)) | walk1 | (dsimp only; walk1)))
  rename Fr _ _ _ _ => F
  rename News _ _ _ _ => N
  refine lc_map (GDiv 2) (rv := v4) rfl (fun Q' h => nameX_L F (by rfl) h) (lo4.is (N (a4, o4) (by ((repeat (first | exact List.mem_cons_self | apply List.mem_cons_of_mem))))).1) (by omega) ?elt ?fin
  case elt =>
    intro C v s₃ m₃ E'' hv hn3 hm3 old
    obtain ⟨n, t, rfl, bn⟩ := b4 v hv
    exact elt_div (k := 2) rfl hn3 hm3 (by decide) (by decide) (Nat.lt_of_lt_of_le bn (Nat.pow_le_pow_right (by decide) (by decide))) (rep_small bn (by decide) (by decide)) (fun r tk hf => ⟨n, t, r, tk, rfl, rfl, hf⟩) rfl rfl (by decide)
  intro D h7 tk7 ys k7 nD hD hp
  obtain ⟨F1, oD, N1, lD⟩ := new_L F N k7 nD hD
  clear F N hD k7 nD
  (repeat' ((fail_if_success (with_reducible first | show ∃ _, _ | show wpAny _ _ (eval (Expr.ListComp _ _ _ _) _) _ _ _ | show wpAny _ _ (binaryOp .Mult _ _) _ _ _ | show wpAny _ _ (binaryOp .Pow _ _) _ _ _ | show wpAny _ _ (call (Value.builtin "len") _) _ _ _ | show wpAny _ _ (binaryOp .Add (Value.ref _) (Value.ref _)) _ _ _)); first | (k_unfold; (try dsimp only)) | walk1 | (dsimp only; walk1)))
  rename Fr _ _ _ _ => F
  rename News _ _ _ _ => N
  refine k _ _ _ rfl rfl rfl (fun q hq => by repeat (first | exact hq | apply List.mem_cons_of_mem)) (by rw [eM]; exact F) N ⟨_, _, _, _, _, _, _, _, _, _, _, _, rfl, (by ((repeat (first | exact List.mem_cons_self | apply List.mem_cons_of_mem)))), (by ((repeat (first | exact List.mem_cons_self | apply List.mem_cons_of_mem)))), (by first | assumption | exact .of), (by ((repeat (first | exact List.mem_cons_self | apply List.mem_cons_of_mem)))), (by first | assumption | exact .of), rfl, hp, rfl, rfl⟩
end Mine
end
theorem Mine.anewT5 : True := by
  w_top off
  exact trivial
section
open PySem PySem.W PyProof.Rows PySem.Calls
set_option Elab.async false
set_option maxRecDepth 100000
set_option maxHeartbeats 2000000
set_option exponentiation.threshold 3000
set_option linter.unusedVariables false
namespace Mine
theorem elem5 {w : World} {p : Program} {loose : List Str} {mean : ExcName → Option Value} {mg mb : Str → Option Value} {base g : Heap} {s : Shared} {Q E : Value → Shared → Prop} {L' : Addr} {m : Str → Option Value} {S : Scope} {e : Expr} (eS : S = defS 8) (ee : e = eltE 4)
   (B : Below callerA base [] g) (X : (hd2.heap_39 w.params).In base) (T : Top p loose mean mg mb base)
   {a2 a3 a4 a5 a6 : Addr} {v2 v3 v4 v5 : List Value} {o2 o3 o4 o5 : Obj} {dat gr wt : List Int} {ov un pt bg wh us : Int} {u1 u2 u3 u4 u5 u6 : Tok} {f1 f2 : UInt64} {k1 k2 : Tok} {more : List (Addr × Obj)}
   (F : Fr g L' s.heap m) (M : LawM m a2 a3 a4 a5 a6 ov un pt bg wh us u1 u2 u3 u4 u5 u6)
   (N : News g L' s.heap ((a6, W.listOf #[.float f1 k1, .float f2 k2] 0) :: (a5, o5) :: (a4, o4) :: (a3, o3) :: (a2, o2) :: more))
   (lo2 : LObj o2 v2) (lo3 : LObj o3 v3) (lo4 : LObj o4 v4) (lo5 : LObj o5 v5) (hl2 : v2.length ≤ 31) (hl3 : v3.length ≤ 31) (hl4 : v4.length ≤ 31) (hl5 : v5.length ≤ 64) (i2 : IntsAre v2 dat) (i3 : IntsAre v3 gr) (i4 : IntsAre v4 wt) (b3 : ∀ v ∈ v3, ∃ n t, v = .int n t ∧ n.natAbs < 2 ^ 900) (b4 : ∀ v ∈ v4, ∃ n t, v = .int n t ∧ n.natAbs < 2 ^ 4) (h34 : v3.length = v4.length)
   (k : ∀ v s' more', s'.gens = s.gens → s'.drawn = s.drawn → s'.os = s.os → (∀ q ∈ ((a6, W.listOf #[.float f1 k1, .float f2 k2] 0) :: (a5, o5) :: (a4, o4) :: (a3, o3) :: (a2, o2) :: more : List (Addr × Obj)), q ∈ more') → Fr g L' s'.heap m → News g L' s'.heap more' → HasW more' v (fun vs ws o u => (∃ t, vs = v3 ++ [.int 1 t]) ∧ (∃ t, ws = v4 ++ [.int (wh - un) t]) ∧ o = (List.zipWith (· * ·) gr wt).sum + wh - un ∧ u = wh) → Q v s') :
   wpAny (model PySem.Challenge.rw_kp0013_02.row.prog w) (callerA.deeper (envOf "law" S L' 89 (.ref 88))) (eval e (envOf "law" S L' 89 (.ref 88))) Q E s := by
  revert X; k_fill; intro X
  have Xg := X.keeps B.stays
  have Tg := T.keeps B.stays
  conv at eS => rhs; whnf
  conv at ee => rhs; whnf
  subst eS ee
  have eM := M.pin
  rw [eM] at F
  clear M
  (repeat' ((fail_if_success (with_reducible first | show ∃ _, _ | show wpAny _ _ (eval (Expr.ListComp _ _ _ _) _) _ _ _ | show wpAny _ _ (binaryOp .Mult _ _) _ _ _ | show wpAny _ _ (binaryOp .Pow _ _) _ _ _ | show wpAny _ _ (call (Value.builtin "len") _) _ _ _ | show wpAny _ _ (binaryOp .Add (Value.ref _) (Value.ref _)) _ _ _)); first | (k_unfold; (try dsimp only)) | walk1 | (dsimp only; walk1)))
  rename Fr _ _ _ _ => F
  rename News _ _ _ _ => N
  refine add_L F N (by ((repeat (first | exact List.mem_cons_self | apply List.mem_cons_of_mem)))) (by first | assumption | exact .of) (by ((repeat (first | exact List.mem_cons_self | apply List.mem_cons_of_mem)))) (by first | assumption | exact .of) (by simp; try omega) (fun _ _ _ _ => ?_)
  clear F N
  (repeat' ((fail_if_success (with_reducible first | show ∃ _, _ | show wpAny _ _ (eval (Expr.ListComp _ _ _ _) _) _ _ _ | show wpAny _ _ (binaryOp .Mult _ _) _ _ _ | show wpAny _ _ (binaryOp .Pow _ _) _ _ _ | show wpAny _ _ (call (Value.builtin "len") _) _ _ _ | show wpAny _ _ (binaryOp .Add (Value.ref _) (Value.ref _)) _ _ _)); first | (k_unfold; (try dsimp only)) | walk1 | (dsimp only; walk1)))
  rename Fr _ _ _ _ => F
  rename News _ _ _ _ => N
  refine add_L F N (by ((repeat (first | exact List.mem_cons_self | apply List.mem_cons_of_mem)))) (by first | assumption | exact .of) (by ((repeat (first | exact List.mem_cons_self | apply List.mem_cons_of_mem)))) (by first | assumption | exact .of) (by simp; try omega) (fun _ _ _ _ => ?_)
  clear F N
  (repeat' ((fail_if_success (with_reducible first | show ∃ _, _ | show wpAny _ _ (eval (Expr.ListComp _ _ _ _) _) _ _ _ | show wpAny _ _ (binaryOp .Mult _ _) _ _ _ | show wpAny _ _ (binaryOp .Pow _ _) _ _ _ | show wpAny _ _ (call (Value.builtin "len") _) _ _ _ | show wpAny _ _ (binaryOp .Add (Value.ref _) (Value.ref _)) _ _ _)); first | (k_unfold; (try dsimp only)) | walk1 | (dsimp only; walk1)))
  rename Fr _ _ _ _ => F
  rename News _ _ _ _ => N
  have n2 := lo3.is (N (a3, o3) (by ((repeat (first | exact List.mem_cons_self | apply List.mem_cons_of_mem))))).1
  have n4 := lo4.is (N (a4, o4) (by ((repeat (first | exact List.mem_cons_self | apply List.mem_cons_of_mem))))).1
  refine lc_zip (r1 := a3) (r2 := a4) (xs := v3) (ys := v4) GMul rfl (by omega) (by omega) ?_
  (repeat' ((fail_if_success (with_reducible first | show ∃ _, _ | show wpAny _ _ (call (Value.type "zip") _) _ _ _)); first | (k_unfold; (try dsimp only)) | walk1 | (dsimp only; walk1)))
  refine zip_rows F n2 n4 (fun h2 z TI TO j1 j2 ap st F2 k2 z1 z2 z3 z4 zl => ?_)
  (repeat' ((fail_if_success (with_reducible first | show ∃ _, _)); first | (k_unfold; (try dsimp only)) | walk1 | (dsimp only; walk1)))
  refine ⟨z, TI, TO, j1, j2, rfl, ap, st, ?elt, ?fin⟩
  case elt =>
    intro C x y i s₃ m₃ E' hx hy hn ha hb
    obtain ⟨n, t, rfl, bn⟩ := b3 x (List.mem_of_getElem? hx)
    obtain ⟨k, u, rfl, bk⟩ := b4 y (List.mem_of_getElem? hy)
    exact elt_mul hn ha hb (IntMulOk.of_le (intBits_le_iff.mpr bn) (intBits_le_iff.mpr bk) (by decide)) (fun tk => ⟨_, _, _, _, _, rfl, rfl, rfl⟩) rfl rfl rfl (by decide) (by decide)
  intro D h3 tk3 vs3 k3 nD hD hvl hG
  have I3 := ints_zip i3 (ys := v4) (vs := vs3) i4 h34 hvl hG
  obtain ⟨kk, nD3⟩ := zip_keep k2 z1 z2 z3 z4 k3 nD
  obtain ⟨F3, oD, N3, lD⟩ := new_L F N kk nD3 hD
  clear F N F2 kk nD3 k2 k3 nD
  (repeat' ((fail_if_success (with_reducible first | show ∃ _, _ | show wpAny _ _ (eval (Expr.ListComp _ _ _ _) _) _ _ _ | show wpAny _ _ (binaryOp .Mult _ _) _ _ _ | show wpAny _ _ (binaryOp .Pow _ _) _ _ _ | show wpAny _ _ (call (Value.builtin "len") _) _ _ _ | show wpAny _ _ (binaryOp .Add (Value.ref _) (Value.ref _)) _ _ _)); first | (k_unfold; (try dsimp only)) | walk1 | (dsimp only; walk1)))
  rename Fr _ _ _ _ => F
  rename News _ _ _ _ => N
  refine k _ _ _ rfl rfl rfl (fun q hq => by repeat (first | exact hq | apply List.mem_cons_of_mem)) (by rw [eM]; exact F) N ⟨_, _, _, _, _, _, _, _, _, _, _, _, rfl, (by ((repeat (first | exact List.mem_cons_self | apply List.mem_cons_of_mem)))), (by ((repeat (first | exact List.mem_cons_self | apply List.mem_cons_of_mem)))), (by first | assumption | exact .of), (by ((repeat (first | exact List.mem_cons_self | apply List.mem_cons_of_mem)))), (by first | assumption | exact .of), ⟨_, rfl⟩, ⟨_, rfl⟩, rfl, rfl⟩
end Mine
end
theorem Mine.anewT6 : True := by
  w_top off
  exact trivial
section
open PySem PySem.W PyProof.Rows PySem.Calls
set_option Elab.async false
set_option maxRecDepth 100000
set_option maxHeartbeats 2000000
set_option exponentiation.threshold 3000
set_option linter.unusedVariables false
namespace Mine
theorem elem6 {w : World} {p : Program} {loose : List Str} {mean : ExcName → Option Value} {mg mb : Str → Option Value} {base g : Heap} {s : Shared} {Q E : Value → Shared → Prop} {L' : Addr} {m : Str → Option Value} {S : Scope} {e : Expr} (eS : S = defS 8) (ee : e = eltE 5)
   (B : Below callerA base [] g) (X : (hd2.heap_39 w.params).In base) (T : Top p loose mean mg mb base)
   {a2 a3 a4 a5 a6 : Addr} {v2 v3 v4 v5 : List Value} {o2 o3 o4 o5 : Obj} {dat gr wt : List Int} {ov un pt bg wh us : Int} {u1 u2 u3 u4 u5 u6 : Tok} {f1 f2 : UInt64} {k1 k2 : Tok} {more : List (Addr × Obj)}
   (F : Fr g L' s.heap m) (M : LawM m a2 a3 a4 a5 a6 ov un pt bg wh us u1 u2 u3 u4 u5 u6)
   (N : News g L' s.heap ((a6, W.listOf #[.float f1 k1, .float f2 k2] 0) :: (a5, o5) :: (a4, o4) :: (a3, o3) :: (a2, o2) :: more))
   (lo2 : LObj o2 v2) (lo3 : LObj o3 v3) (lo4 : LObj o4 v4) (lo5 : LObj o5 v5) (hl2 : v2.length ≤ 31) (hl3 : v3.length ≤ 31) (hl4 : v4.length ≤ 31) (hl5 : v5.length ≤ 64) (i2 : IntsAre v2 dat) (i3 : IntsAre v3 gr) (i4 : IntsAre v4 wt) 
   (k : ∀ v s' more', s'.gens = s.gens → s'.drawn = s.drawn → s'.os = s.os → (∀ q ∈ ((a6, W.listOf #[.float f1 k1, .float f2 k2] 0) :: (a5, o5) :: (a4, o4) :: (a3, o3) :: (a2, o2) :: more : List (Addr × Obj)), q ∈ more') → Fr g L' s'.heap m → News g L' s'.heap more' → HasW more' v (fun vs ws o u => (∃ t, vs = v2 ++ [.int 1 t]) ∧ (∃ t, ws = v4 ++ [.int (-un) t]) ∧ o = ov ∧ u = 0) → Q v s') :
   wpAny (model PySem.Challenge.rw_kp0013_02.row.prog w) (callerA.deeper (envOf "law" S L' 89 (.ref 88))) (eval e (envOf "law" S L' 89 (.ref 88))) Q E s := by
  revert X; k_fill; intro X
  have Xg := X.keeps B.stays
  have Tg := T.keeps B.stays
  conv at eS => rhs; whnf
  conv at ee => rhs; whnf
  subst eS ee
  have eM := M.pin
  rw [eM] at F
  clear M
  (repeat' ((fail_if_success (with_reducible first | show ∃ _, _ | show wpAny _ _ (eval (Expr.ListComp _ _ _ _) _) _ _ _ | show wpAny _ _ (binaryOp .Mult _ _) _ _ _ | show wpAny _ _ (binaryOp .Pow _ _) _ _ _ | show wpAny _ _ (call (Value.builtin "len") _) _ _ _ | show wpAny _ _ (binaryOp .Add (Value.ref _) (Value.ref _)) _ _ _)); first | (k_unfold; (try dsimp only)) | walk1 | (dsimp only; walk1)))
  rename Fr _ _ _ _ => F
  rename News _ _ _ _ => N
  refine add_L F N (by ((repeat (first | exact List.mem_cons_self | apply List.mem_cons_of_mem)))) (by first | assumption | exact .of) (by ((repeat (first | exact List.mem_cons_self | apply List.mem_cons_of_mem)))) (by first | assumption | exact .of) (by simp; try omega) (fun _ _ _ _ => ?_)
  clear F N
  (repeat' ((fail_if_success (with_reducible first | show ∃ _, _ | show wpAny _ _ (eval (Expr.ListComp _ _ _ _) _) _ _ _ | show wpAny _ _ (binaryOp .Mult _ _) _ _ _ | show wpAny _ _ (binaryOp .Pow _ _) _ _ _ | show wpAny _ _ (call (Value.builtin "len") _) _ _ _ | show wpAny _ _ (binaryOp .Add (Value.ref _) (Value.ref _)) _ _ _)); first | (k_unfold; (try dsimp only)) | walk1 | (dsimp only; walk1)))
  rename Fr _ _ _ _ => F
  rename News _ _ _ _ => N
  refine add_L F N (by ((repeat (first | exact List.mem_cons_self | apply List.mem_cons_of_mem)))) (by first | assumption | exact .of) (by ((repeat (first | exact List.mem_cons_self | apply List.mem_cons_of_mem)))) (by first | assumption | exact .of) (by simp; try omega) (fun _ _ _ _ => ?_)
  clear F N
  (repeat' ((fail_if_success (with_reducible first | show ∃ _, _ | show wpAny _ _ (eval (Expr.ListComp _ _ _ _) _) _ _ _ | show wpAny _ _ (binaryOp .Mult _ _) _ _ _ | show wpAny _ _ (binaryOp .Pow _ _) _ _ _ | show wpAny _ _ (call (Value.builtin "len") _) _ _ _ | show wpAny _ _ (binaryOp .Add (Value.ref _) (Value.ref _)) _ _ _)); first | (k_unfold; (try dsimp only)) | walk1 | (dsimp only; walk1)))
  rename Fr _ _ _ _ => F
  rename News _ _ _ _ => N
  refine k _ _ _ rfl rfl rfl (fun q hq => by repeat (first | exact hq | apply List.mem_cons_of_mem)) (by rw [eM]; exact F) N ⟨_, _, _, _, _, _, _, _, _, _, _, _, rfl, (by ((repeat (first | exact List.mem_cons_self | apply List.mem_cons_of_mem)))), (by ((repeat (first | exact List.mem_cons_self | apply List.mem_cons_of_mem)))), (by first | assumption | exact .of), (by ((repeat (first | exact List.mem_cons_self | apply List.mem_cons_of_mem)))), (by first | assumption | exact .of), ⟨_, rfl⟩, ⟨_, rfl⟩, rfl, rfl⟩
end Mine
end
theorem Mine.anewT7 : True := by
  w_top off
  exact trivial
section
open PySem PySem.W PyProof.Rows PySem.Calls
set_option Elab.async false
set_option maxRecDepth 100000
set_option maxHeartbeats 2000000
set_option exponentiation.threshold 3000
set_option linter.unusedVariables false
namespace Mine
theorem elem7 {w : World} {p : Program} {loose : List Str} {mean : ExcName → Option Value} {mg mb : Str → Option Value} {base g : Heap} {s : Shared} {Q E : Value → Shared → Prop} {L' : Addr} {m : Str → Option Value} {S : Scope} {e : Expr} (eS : S = defS 8) (ee : e = eltE 6)
   (B : Below callerA base [] g) (X : (hd2.heap_39 w.params).In base) (T : Top p loose mean mg mb base)
   {a2 a3 a4 a5 a6 : Addr} {v2 v3 v4 v5 : List Value} {o2 o3 o4 o5 : Obj} {dat gr wt : List Int} {ov un pt bg wh us : Int} {u1 u2 u3 u4 u5 u6 : Tok} {f1 f2 : UInt64} {k1 k2 : Tok} {more : List (Addr × Obj)}
   (F : Fr g L' s.heap m) (M : LawM m a2 a3 a4 a5 a6 ov un pt bg wh us u1 u2 u3 u4 u5 u6)
   (N : News g L' s.heap ((a6, W.listOf #[.float f1 k1, .float f2 k2] 0) :: (a5, o5) :: (a4, o4) :: (a3, o3) :: (a2, o2) :: more))
   (lo2 : LObj o2 v2) (lo3 : LObj o3 v3) (lo4 : LObj o4 v4) (lo5 : LObj o5 v5) (hl2 : v2.length ≤ 31) (hl3 : v3.length ≤ 31) (hl4 : v4.length ≤ 31) (hl5 : v5.length ≤ 64) (i2 : IntsAre v2 dat) (i3 : IntsAre v3 gr) (i4 : IntsAre v4 wt) 
   (k : ∀ v s' more', s'.gens = s.gens → s'.drawn = s.drawn → s'.os = s.os → (∀ q ∈ ((a6, W.listOf #[.float f1 k1, .float f2 k2] 0) :: (a5, o5) :: (a4, o4) :: (a3, o3) :: (a2, o2) :: more : List (Addr × Obj)), q ∈ more') → Fr g L' s'.heap m → News g L' s'.heap more' → HasW more' v (fun vs ws o u => vs = v2 ∧ (∃ t, ws = v4 ++ [.int 1 t]) ∧ o = ov ∧ u = un) → Q v s') :
   wpAny (model PySem.Challenge.rw_kp0013_02.row.prog w) (callerA.deeper (envOf "law" S L' 89 (.ref 88))) (eval e (envOf "law" S L' 89 (.ref 88))) Q E s := by
  revert X; k_fill; intro X
  have Xg := X.keeps B.stays
  have Tg := T.keeps B.stays
  conv at eS => rhs; whnf
  conv at ee => rhs; whnf
  subst eS ee
  have eM := M.pin
  rw [eM] at F
  clear M
  (repeat' ((fail_if_success (with_reducible first | show ∃ _, _ | show wpAny _ _ (eval (Expr.ListComp _ _ _ _) _) _ _ _ | show wpAny _ _ (binaryOp .Mult _ _) _ _ _ | show wpAny _ _ (binaryOp .Pow _ _) _ _ _ | show wpAny _ _ (call (Value.builtin "len") _) _ _ _ | show wpAny _ _ (binaryOp .Add (Value.ref _) (Value.ref _)) _ _ _)); first | (k_unfold; (try dsimp only)) | walk1 | (dsimp only; walk1)))
  rename Fr _ _ _ _ => F
  rename News _ _ _ _ => N
  refine add_L F N (by ((repeat (first | exact List.mem_cons_self | apply List.mem_cons_of_mem)))) (by first | assumption | exact .of) (by ((repeat (first | exact List.mem_cons_self | apply List.mem_cons_of_mem)))) (by first | assumption | exact .of) (by simp; try omega) (fun _ _ _ _ => ?_)
  clear F N
  (repeat' ((fail_if_success (with_reducible first | show ∃ _, _ | show wpAny _ _ (eval (Expr.ListComp _ _ _ _) _) _ _ _ | show wpAny _ _ (binaryOp .Mult _ _) _ _ _ | show wpAny _ _ (binaryOp .Pow _ _) _ _ _ | show wpAny _ _ (call (Value.builtin "len") _) _ _ _ | show wpAny _ _ (binaryOp .Add (Value.ref _) (Value.ref _)) _ _ _)); first | (k_unfold; (try dsimp only)) | walk1 | (dsimp only; walk1)))
  rename Fr _ _ _ _ => F
  rename News _ _ _ _ => N
  refine k _ _ _ rfl rfl rfl (fun q hq => by repeat (first | exact hq | apply List.mem_cons_of_mem)) (by rw [eM]; exact F) N ⟨_, _, _, _, _, _, _, _, _, _, _, _, rfl, (by ((repeat (first | exact List.mem_cons_self | apply List.mem_cons_of_mem)))), (by ((repeat (first | exact List.mem_cons_self | apply List.mem_cons_of_mem)))), (by first | assumption | exact .of), (by ((repeat (first | exact List.mem_cons_self | apply List.mem_cons_of_mem)))), (by first | assumption | exact .of), rfl, ⟨_, rfl⟩, rfl, rfl⟩
end Mine
end
theorem Mine.anewT8 : True := by
  w_top off
  exact trivial
section
open PySem PySem.W PyProof.Rows PySem.Calls
set_option Elab.async false
set_option maxRecDepth 100000
set_option maxHeartbeats 2000000
set_option exponentiation.threshold 3000
set_option linter.unusedVariables false
namespace Mine
theorem elem8 {w : World} {p : Program} {loose : List Str} {mean : ExcName → Option Value} {mg mb : Str → Option Value} {base g : Heap} {s : Shared} {Q E : Value → Shared → Prop} {L' : Addr} {m : Str → Option Value} {S : Scope} {e : Expr} (eS : S = defS 8) (ee : e = eltE 7)
   (B : Below callerA base [] g) (X : (hd2.heap_39 w.params).In base) (T : Top p loose mean mg mb base)
   {a2 a3 a4 a5 a6 : Addr} {v2 v3 v4 v5 : List Value} {o2 o3 o4 o5 : Obj} {dat gr wt : List Int} {ov un pt bg wh us : Int} {u1 u2 u3 u4 u5 u6 : Tok} {f1 f2 : UInt64} {k1 k2 : Tok} {more : List (Addr × Obj)}
   (F : Fr g L' s.heap m) (M : LawM m a2 a3 a4 a5 a6 ov un pt bg wh us u1 u2 u3 u4 u5 u6)
   (N : News g L' s.heap ((a6, W.listOf #[.float f1 k1, .float f2 k2] 0) :: (a5, o5) :: (a4, o4) :: (a3, o3) :: (a2, o2) :: more))
   (lo2 : LObj o2 v2) (lo3 : LObj o3 v3) (lo4 : LObj o4 v4) (lo5 : LObj o5 v5) (hl2 : v2.length ≤ 31) (hl3 : v3.length ≤ 31) (hl4 : v4.length ≤ 31) (hl5 : v5.length ≤ 64) (i2 : IntsAre v2 dat) (i3 : IntsAre v3 gr) (i4 : IntsAre v4 wt) 
   (k : ∀ v s' more', s'.gens = s.gens → s'.drawn = s.drawn → s'.os = s.os → (∀ q ∈ ((a6, W.listOf #[.float f1 k1, .float f2 k2] 0) :: (a5, o5) :: (a4, o4) :: (a3, o3) :: (a2, o2) :: more : List (Addr × Obj)), q ∈ more') → Fr g L' s'.heap m → News g L' s'.heap more' → HasW more' v (fun vs ws o u => (∃ t, vs = v2 ++ [.int 1 t]) ∧ ws = v4 ∧ o = ov ∧ u = un) → Q v s') :
   wpAny (model PySem.Challenge.rw_kp0013_02.row.prog w) (callerA.deeper (envOf "law" S L' 89 (.ref 88))) (eval e (envOf "law" S L' 89 (.ref 88))) Q E s := by
  revert X; k_fill; intro X
  have Xg := X.keeps B.stays
  have Tg := T.keeps B.stays
  conv at eS => rhs; whnf
  conv at ee => rhs; whnf
  subst eS ee
  have eM := M.pin
  rw [eM] at F
  clear M
  (repeat' ((fail_if_success (with_reducible first | show ∃ _, _ | show wpAny _ _ (eval (Expr.ListComp _ _ _ _) _) _ _ _ | show wpAny _ _ (binaryOp .Mult _ _) _ _ _ | show wpAny _ _ (binaryOp .Pow _ _) _ _ _ | show wpAny _ _ (call (Value.builtin "len") _) _ _ _ | show wpAny _ _ (binaryOp .Add (Value.ref _) (Value.ref _)) _ _ _)); first | (k_unfold; (try dsimp only)) | walk1 | (dsimp only; walk1)))
  rename Fr _ _ _ _ => F
  rename News _ _ _ _ => N
  refine add_L F N (by ((repeat (first | exact List.mem_cons_self | apply List.mem_cons_of_mem)))) (by first | assumption | exact .of) (by ((repeat (first | exact List.mem_cons_self | apply List.mem_cons_of_mem)))) (by first | assumption | exact .of) (by simp; try omega) (fun _ _ _ _ => ?_)
  clear F N
  (repeat' ((fail_if_success (with_reducible first | show ∃ _, _ | show wpAny _ _ (eval (Expr.ListComp _ _ _ _) _) _ _ _ | show wpAny _ _ (binaryOp .Mult _ _) _ _ _ | show wpAny _ _ (binaryOp .Pow _ _) _ _ _ | show wpAny _ _ (call (Value.builtin "len") _) _ _ _ | show wpAny _ _ (binaryOp .Add (Value.ref _) (Value.ref _)) _ _ _)); first | (k_unfold; (try dsimp only)) | walk1 | (dsimp only; walk1)))
  rename Fr _ _ _ _ => F
  rename News _ _ _ _ => N
  refine k _ _ _ rfl rfl rfl (fun q hq => by repeat (first | exact hq | apply List.mem_cons_of_mem)) (by rw [eM]; exact F) N ⟨_, _, _, _, _, _, _, _, _, _, _, _, rfl, (by ((repeat (first | exact List.mem_cons_self | apply List.mem_cons_of_mem)))), (by ((repeat (first | exact List.mem_cons_self | apply List.mem_cons_of_mem)))), (by first | assumption | exact .of), (by ((repeat (first | exact List.mem_cons_self | apply List.mem_cons_of_mem)))), (by first | assumption | exact .of), ⟨_, rfl⟩, rfl, rfl, rfl⟩
end Mine
end
theorem Mine.anewT9 : True := by
  w_top off
  exact trivial
section
open PySem PySem.W PyProof.Rows PySem.Calls
set_option Elab.async false
set_option maxRecDepth 100000
set_option maxHeartbeats 2000000
set_option exponentiation.threshold 3000
set_option linter.unusedVariables false
namespace Mine
theorem elem9 {w : World} {p : Program} {loose : List Str} {mean : ExcName → Option Value} {mg mb : Str → Option Value} {base g : Heap} {s : Shared} {Q E : Value → Shared → Prop} {L' : Addr} {m : Str → Option Value} {S : Scope} {e : Expr} (eS : S = defS 8) (ee : e = eltE 8)
   (B : Below callerA base [] g) (X : (hd2.heap_39 w.params).In base) (T : Top p loose mean mg mb base)
   {a2 a3 a4 a5 a6 : Addr} {v2 v3 v4 v5 : List Value} {o2 o3 o4 o5 : Obj} {dat gr wt : List Int} {ov un pt bg wh us : Int} {u1 u2 u3 u4 u5 u6 : Tok} {f1 f2 : UInt64} {k1 k2 : Tok} {more : List (Addr × Obj)}
   (F : Fr g L' s.heap m) (M : LawM m a2 a3 a4 a5 a6 ov un pt bg wh us u1 u2 u3 u4 u5 u6)
   (N : News g L' s.heap ((a6, W.listOf #[.float f1 k1, .float f2 k2] 0) :: (a5, o5) :: (a4, o4) :: (a3, o3) :: (a2, o2) :: more))
   (lo2 : LObj o2 v2) (lo3 : LObj o3 v3) (lo4 : LObj o4 v4) (lo5 : LObj o5 v5) (hl2 : v2.length ≤ 31) (hl3 : v3.length ≤ 31) (hl4 : v4.length ≤ 31) (hl5 : v5.length ≤ 64) (i2 : IntsAre v2 dat) (i3 : IntsAre v3 gr) (i4 : IntsAre v4 wt) 
   (k : ∀ v s' more', s'.gens = s.gens → s'.drawn = s.drawn → s'.os = s.os → (∀ q ∈ ((a6, W.listOf #[.float f1 k1, .float f2 k2] 0) :: (a5, o5) :: (a4, o4) :: (a3, o3) :: (a2, o2) :: more : List (Addr × Obj)), q ∈ more') → Fr g L' s'.heap m → News g L' s'.heap more' → HasN more' v (fun vs o u => vs = v2 ∧ o = pt ∧ u = (v2.length : Int)) → Q v s') :
   wpAny (model PySem.Challenge.rw_kp0013_02.row.prog w) (callerA.deeper (envOf "law" S L' 89 (.ref 88))) (eval e (envOf "law" S L' 89 (.ref 88))) Q E s := by
  revert X; k_fill; intro X
  have Xg := X.keeps B.stays
  have Tg := T.keeps B.stays
  conv at eS => rhs; whnf
  conv at ee => rhs; whnf
  subst eS ee
  have eM := M.pin
  rw [eM] at F
  clear M
  (repeat' ((fail_if_success (with_reducible first | show ∃ _, _ | show wpAny _ _ (eval (Expr.ListComp _ _ _ _) _) _ _ _ | show wpAny _ _ (binaryOp .Mult _ _) _ _ _ | show wpAny _ _ (binaryOp .Pow _ _) _ _ _ | show wpAny _ _ (call (Value.builtin "len") _) _ _ _ | show wpAny _ _ (binaryOp .Add (Value.ref _) (Value.ref _)) _ _ _)); first | (k_unfold; (try dsimp only)) | walk1 | (dsimp only; walk1)))
  rename News _ _ _ _ => N
  refine call_len_list (items := v2.toArray) (lo2.is (N (a2, o2) (by ((repeat (first | exact List.mem_cons_self | apply List.mem_cons_of_mem))))).1) (by simp; omega) ?_
  simp only [List.size_toArray]
  (repeat' ((fail_if_success (with_reducible first | show ∃ _, _ | show wpAny _ _ (eval (Expr.ListComp _ _ _ _) _) _ _ _ | show wpAny _ _ (binaryOp .Mult _ _) _ _ _ | show wpAny _ _ (binaryOp .Pow _ _) _ _ _ | show wpAny _ _ (call (Value.builtin "len") _) _ _ _ | show wpAny _ _ (binaryOp .Add (Value.ref _) (Value.ref _)) _ _ _)); first | (k_unfold; (try dsimp only)) | walk1 | (dsimp only; walk1)))
  rename Fr _ _ _ _ => F
  rename News _ _ _ _ => N
  refine k _ _ _ rfl rfl rfl (fun q hq => by repeat (first | exact hq | apply List.mem_cons_of_mem)) (by rw [eM]; exact F) N ⟨_, _, _, _, _, _, _, _, _, rfl, (by ((repeat (first | exact List.mem_cons_self | apply List.mem_cons_of_mem)))), (by ((repeat (first | exact List.mem_cons_self | apply List.mem_cons_of_mem)))), (by first | assumption | exact .of), rfl, rfl, rfl⟩
end Mine
end
theorem Mine.anewT10 : True := by
  w_top off
  exact trivial
section
open PySem PySem.W PyProof.Rows PySem.Calls
set_option Elab.async false
set_option maxRecDepth 100000
set_option maxHeartbeats 2000000
set_option exponentiation.threshold 3000
set_option linter.unusedVariables false
namespace Mine
theorem elem10 {w : World} {p : Program} {loose : List Str} {mean : ExcName → Option Value} {mg mb : Str → Option Value} {base g : Heap} {s : Shared} {Q E : Value → Shared → Prop} {L' : Addr} {m : Str → Option Value} {S : Scope} {e : Expr} (eS : S = defS 8) (ee : e = eltE 9)
   (B : Below callerA base [] g) (X : (hd2.heap_39 w.params).In base) (T : Top p loose mean mg mb base)
   {a2 a3 a4 a5 a6 : Addr} {v2 v3 v4 v5 : List Value} {o2 o3 o4 o5 : Obj} {dat gr wt : List Int} {ov un pt bg wh us : Int} {u1 u2 u3 u4 u5 u6 : Tok} {f1 f2 : UInt64} {k1 k2 : Tok} {more : List (Addr × Obj)}
   (F : Fr g L' s.heap m) (M : LawM m a2 a3 a4 a5 a6 ov un pt bg wh us u1 u2 u3 u4 u5 u6)
   (N : News g L' s.heap ((a6, W.listOf #[.float f1 k1, .float f2 k2] 0) :: (a5, o5) :: (a4, o4) :: (a3, o3) :: (a2, o2) :: more))
   (lo2 : LObj o2 v2) (lo3 : LObj o3 v3) (lo4 : LObj o4 v4) (lo5 : LObj o5 v5) (hl2 : v2.length ≤ 31) (hl3 : v3.length ≤ 31) (hl4 : v4.length ≤ 31) (hl5 : v5.length ≤ 64) (i2 : IntsAre v2 dat) (i3 : IntsAre v3 gr) (i4 : IntsAre v4 wt) (bb : ∃ e : Nat, e < 1000 ∧ bg = 2 ^ e)
   (k : ∀ v s' more', s'.gens = s.gens → s'.drawn = s.drawn → s'.os = s.os → (∀ q ∈ ((a6, W.listOf #[.float f1 k1, .float f2 k2] 0) :: (a5, o5) :: (a4, o4) :: (a3, o3) :: (a2, o2) :: more : List (Addr × Obj)), q ∈ more') → Fr g L' s'.heap m → News g L' s'.heap more' → HasN more' v (fun vs o u => (∃ x1 t1 x2 t2, vs = [.float x1 t1] ++ v2 ++ [.float x2 t2] ∧ Fl x1 (-1 * bg * 2 ^ 1074) ∧ Fl x2 (1 * bg * 2 ^ 1074)) ∧ o = pt ∧ u = (v2.length : Int) + 2) → Q v s') :
   wpAny (model PySem.Challenge.rw_kp0013_02.row.prog w) (callerA.deeper (envOf "law" S L' 89 (.ref 88))) (eval e (envOf "law" S L' 89 (.ref 88))) Q E s := by
  revert X; k_fill; intro X
  have Xg := X.keeps B.stays
  have Tg := T.keeps B.stays
  conv at eS => rhs; whnf
  conv at ee => rhs; whnf
  subst eS ee
  have eM := M.pin
  rw [eM] at F
  clear M
  (repeat' ((fail_if_success (with_reducible first | show ∃ _, _ | show wpAny _ _ (eval (Expr.ListComp _ _ _ _) _) _ _ _ | show wpAny _ _ (binaryOp .Mult _ _) _ _ _ | show wpAny _ _ (binaryOp .Pow _ _) _ _ _ | show wpAny _ _ (call (Value.builtin "len") _) _ _ _ | show wpAny _ _ (binaryOp .Add (Value.ref _) (Value.ref _)) _ _ _)); first | (k_unfold; (try dsimp only)) | walk1 | (dsimp only; walk1)))
  refine fl_one_mul rfl (σ := -1) (by have := fl_neg fl_one; rwa [← Int.neg_mul] at this) (by decide) (by obtain ⟨e, he, rfl⟩ := bb; rw [natAbs_pow]; exact Nat.pow_lt_pow_right (by decide) (by omega)) (by obtain ⟨e, he, rfl⟩ := bb; exact rep_big he) (fun f7 k7 hf7 => ?_)
  (repeat' ((fail_if_success (with_reducible first | show ∃ _, _ | show wpAny _ _ (eval (Expr.ListComp _ _ _ _) _) _ _ _ | show wpAny _ _ (binaryOp .Mult _ _) _ _ _ | show wpAny _ _ (binaryOp .Pow _ _) _ _ _ | show wpAny _ _ (call (Value.builtin "len") _) _ _ _ | show wpAny _ _ (binaryOp .Add (Value.ref _) (Value.ref _)) _ _ _)); first | (k_unfold; (try dsimp only)) | walk1 | (dsimp only; walk1)))
  rename Fr _ _ _ _ => F
  rename News _ _ _ _ => N
  refine add_L F N (by ((repeat (first | exact List.mem_cons_self | apply List.mem_cons_of_mem)))) (by first | assumption | exact .of) (by ((repeat (first | exact List.mem_cons_self | apply List.mem_cons_of_mem)))) (by first | assumption | exact .of) (by simp; try omega) (fun _ _ _ _ => ?_)
  clear F N
  (repeat' ((fail_if_success (with_reducible first | show ∃ _, _ | show wpAny _ _ (eval (Expr.ListComp _ _ _ _) _) _ _ _ | show wpAny _ _ (binaryOp .Mult _ _) _ _ _ | show wpAny _ _ (binaryOp .Pow _ _) _ _ _ | show wpAny _ _ (call (Value.builtin "len") _) _ _ _ | show wpAny _ _ (binaryOp .Add (Value.ref _) (Value.ref _)) _ _ _)); first | (k_unfold; (try dsimp only)) | walk1 | (dsimp only; walk1)))
  refine fl_one_mul rfl (σ := 1) fl_one (by decide) (by obtain ⟨e, he, rfl⟩ := bb; rw [natAbs_pow]; exact Nat.pow_lt_pow_right (by decide) (by omega)) (by obtain ⟨e, he, rfl⟩ := bb; exact rep_big he) (fun f8 k8 hf8 => ?_)
  (repeat' ((fail_if_success (with_reducible first | show ∃ _, _ | show wpAny _ _ (eval (Expr.ListComp _ _ _ _) _) _ _ _ | show wpAny _ _ (binaryOp .Mult _ _) _ _ _ | show wpAny _ _ (binaryOp .Pow _ _) _ _ _ | show wpAny _ _ (call (Value.builtin "len") _) _ _ _ | show wpAny _ _ (binaryOp .Add (Value.ref _) (Value.ref _)) _ _ _)); first | (k_unfold; (try dsimp only)) | walk1 | (dsimp only; walk1)))
  rename Fr _ _ _ _ => F
  rename News _ _ _ _ => N
  refine add_L F N (by ((repeat (first | exact List.mem_cons_self | apply List.mem_cons_of_mem)))) (by first | assumption | exact .of) (by ((repeat (first | exact List.mem_cons_self | apply List.mem_cons_of_mem)))) (by first | assumption | exact .of) (by simp; try omega) (fun _ _ _ _ => ?_)
  clear F N
  (repeat' ((fail_if_success (with_reducible first | show ∃ _, _ | show wpAny _ _ (eval (Expr.ListComp _ _ _ _) _) _ _ _ | show wpAny _ _ (binaryOp .Mult _ _) _ _ _ | show wpAny _ _ (binaryOp .Pow _ _) _ _ _ | show wpAny _ _ (call (Value.builtin "len") _) _ _ _ | show wpAny _ _ (binaryOp .Add (Value.ref _) (Value.ref _)) _ _ _)); first | (k_unfold; (try dsimp only)) | walk1 | (dsimp only; walk1)))
  rename News _ _ _ _ => N
  refine call_len_list (items := v2.toArray) (lo2.is (N (a2, o2) (by ((repeat (first | exact List.mem_cons_self | apply List.mem_cons_of_mem))))).1) (by simp; omega) ?_
  simp only [List.size_toArray]
  (repeat' ((fail_if_success (with_reducible first | show ∃ _, _ | show wpAny _ _ (eval (Expr.ListComp _ _ _ _) _) _ _ _ | show wpAny _ _ (binaryOp .Mult _ _) _ _ _ | show wpAny _ _ (binaryOp .Pow _ _) _ _ _ | show wpAny _ _ (call (Value.builtin "len") _) _ _ _ | show wpAny _ _ (binaryOp .Add (Value.ref _) (Value.ref _)) _ _ _)); first | (k_unfold; (try dsimp only)) | walk1 | (dsimp only; walk1)))
  rename Fr _ _ _ _ => F
  rename News _ _ _ _ => N
  refine k _ _ _ rfl rfl rfl (fun q hq => by repeat (first | exact hq | apply List.mem_cons_of_mem)) (by rw [eM]; exact F) N ⟨_, _, _, _, _, _, _, _, _, rfl, (by ((repeat (first | exact List.mem_cons_self | apply List.mem_cons_of_mem)))), (by ((repeat (first | exact List.mem_cons_self | apply List.mem_cons_of_mem)))), (by first | assumption | exact .of), ⟨_, _, _, _, rfl, hf7, hf8⟩, rfl, rfl⟩
end Mine
end
theorem Mine.anewT11 : True := by
  w_top off
  exact trivial
section
open PySem PySem.W PyProof.Rows PySem.Calls
set_option Elab.async false
set_option maxRecDepth 100000
set_option maxHeartbeats 2000000
set_option exponentiation.threshold 3000
set_option linter.unusedVariables false
namespace Mine
theorem elem11 {w : World} {p : Program} {loose : List Str} {mean : ExcName → Option Value} {mg mb : Str → Option Value} {base g : Heap} {s : Shared} {Q E : Value → Shared → Prop} {L' : Addr} {m : Str → Option Value} {S : Scope} {e : Expr} (eS : S = defS 8) (ee : e = eltE 10)
   (B : Below callerA base [] g) (X : (hd2.heap_39 w.params).In base) (T : Top p loose mean mg mb base)
   {a2 a3 a4 a5 a6 : Addr} {v2 v3 v4 v5 : List Value} {o2 o3 o4 o5 : Obj} {dat gr wt : List Int} {ov un pt bg wh us : Int} {u1 u2 u3 u4 u5 u6 : Tok} {f1 f2 : UInt64} {k1 k2 : Tok} {more : List (Addr × Obj)}
   (F : Fr g L' s.heap m) (M : LawM m a2 a3 a4 a5 a6 ov un pt bg wh us u1 u2 u3 u4 u5 u6)
   (N : News g L' s.heap ((a6, W.listOf #[.float f1 k1, .float f2 k2] 0) :: (a5, o5) :: (a4, o4) :: (a3, o3) :: (a2, o2) :: more))
   (lo2 : LObj o2 v2) (lo3 : LObj o3 v3) (lo4 : LObj o4 v4) (lo5 : LObj o5 v5) (hl2 : v2.length ≤ 31) (hl3 : v3.length ≤ 31) (hl4 : v4.length ≤ 31) (hl5 : v5.length ≤ 64) (i2 : IntsAre v2 dat) (i3 : IntsAre v3 gr) (i4 : IntsAre v4 wt) 
   (k : ∀ v s' more', s'.gens = s.gens → s'.drawn = s.drawn → s'.os = s.os → (∀ q ∈ ((a6, W.listOf #[.float f1 k1, .float f2 k2] 0) :: (a5, o5) :: (a4, o4) :: (a3, o3) :: (a2, o2) :: more : List (Addr × Obj)), q ∈ more') → Fr g L' s'.heap m → News g L' s'.heap more' → HasN more' v (fun vs o u => vs = v5 ∧ o = us ∧ u = (v5.length : Int) * 2 ^ 100) → Q v s') :
   wpAny (model PySem.Challenge.rw_kp0013_02.row.prog w) (callerA.deeper (envOf "law" S L' 89 (.ref 88))) (eval e (envOf "law" S L' 89 (.ref 88))) Q E s := by
  revert X; k_fill; intro X
  have Xg := X.keeps B.stays
  have Tg := T.keeps B.stays
  conv at eS => rhs; whnf
  conv at ee => rhs; whnf
  subst eS ee
  have eM := M.pin
  rw [eM] at F
  clear M
  (repeat' ((fail_if_success (with_reducible first | show ∃ _, _ | show wpAny _ _ (eval (Expr.ListComp _ _ _ _) _) _ _ _ | show wpAny _ _ (binaryOp .Mult _ _) _ _ _ | show wpAny _ _ (binaryOp .Pow _ _) _ _ _ | show wpAny _ _ (call (Value.builtin "len") _) _ _ _ | show wpAny _ _ (binaryOp .Add (Value.ref _) (Value.ref _)) _ _ _)); first | (k_unfold; (try dsimp only)) | walk1 | (dsimp only; walk1)))
  rename News _ _ _ _ => N
  refine call_len_list (items := v5.toArray) (lo5.is (N (a5, o5) (by ((repeat (first | exact List.mem_cons_self | apply List.mem_cons_of_mem))))).1) (by simp; omega) ?_
  simp only [List.size_toArray]
  (repeat' ((fail_if_success (with_reducible first | show ∃ _, _ | show wpAny _ _ (eval (Expr.ListComp _ _ _ _) _) _ _ _ | show wpAny _ _ (binaryOp .Mult _ _) _ _ _ | show wpAny _ _ (binaryOp .Pow _ _) _ _ _ | show wpAny _ _ (call (Value.builtin "len") _) _ _ _ | show wpAny _ _ (binaryOp .Add (Value.ref _) (Value.ref _)) _ _ _)); first | (k_unfold; (try dsimp only)) | walk1 | (dsimp only; walk1)))
  refine pow_to (v := 2 ^ 100) rfl (by decide) (by decide) ?_
  (repeat' ((fail_if_success (with_reducible first | show ∃ _, _ | show wpAny _ _ (eval (Expr.ListComp _ _ _ _) _) _ _ _ | show wpAny _ _ (binaryOp .Mult _ _) _ _ _ | show wpAny _ _ (binaryOp .Pow _ _) _ _ _ | show wpAny _ _ (call (Value.builtin "len") _) _ _ _ | show wpAny _ _ (binaryOp .Add (Value.ref _) (Value.ref _)) _ _ _)); first | (k_unfold; (try dsimp only)) | walk1 | (dsimp only; walk1)))
  refine mul_to (v := (v5.length : Int) * 2 ^ 100) (m := 7) (n := 101) rfl (by simp; omega) (by decide) (by decide) ?_
  (repeat' ((fail_if_success (with_reducible first | show ∃ _, _ | show wpAny _ _ (eval (Expr.ListComp _ _ _ _) _) _ _ _ | show wpAny _ _ (binaryOp .Mult _ _) _ _ _ | show wpAny _ _ (binaryOp .Pow _ _) _ _ _ | show wpAny _ _ (call (Value.builtin "len") _) _ _ _ | show wpAny _ _ (binaryOp .Add (Value.ref _) (Value.ref _)) _ _ _)); first | (k_unfold; (try dsimp only)) | walk1 | (dsimp only; walk1)))
  rename Fr _ _ _ _ => F
  rename News _ _ _ _ => N
  refine k _ _ _ rfl rfl rfl (fun q hq => by repeat (first | exact hq | apply List.mem_cons_of_mem)) (by rw [eM]; exact F) N ⟨_, _, _, _, _, _, _, _, _, rfl, (by ((repeat (first | exact List.mem_cons_self | apply List.mem_cons_of_mem)))), (by ((repeat (first | exact List.mem_cons_self | apply List.mem_cons_of_mem)))), (by first | assumption | exact .of), rfl, rfl, rfl⟩
end Mine
end
theorem Mine.anewT12 : True := by
  w_top off
  exact trivial
section
open PySem PySem.W PyProof.Rows PySem.Calls
set_option Elab.async false
set_option maxRecDepth 100000
set_option maxHeartbeats 2000000
set_option exponentiation.threshold 3000
set_option linter.unusedVariables false
namespace Mine
theorem elem12 {w : World} {p : Program} {loose : List Str} {mean : ExcName → Option Value} {mg mb : Str → Option Value} {base g : Heap} {s : Shared} {Q E : Value → Shared → Prop} {L' : Addr} {m : Str → Option Value} {S : Scope} {e : Expr} (eS : S = defS 8) (ee : e = eltE 11)
   (B : Below callerA base [] g) (X : (hd2.heap_39 w.params).In base) (T : Top p loose mean mg mb base)
   {a2 a3 a4 a5 a6 : Addr} {v2 v3 v4 v5 : List Value} {o2 o3 o4 o5 : Obj} {dat gr wt : List Int} {ov un pt bg wh us : Int} {u1 u2 u3 u4 u5 u6 : Tok} {f1 f2 : UInt64} {k1 k2 : Tok} {more : List (Addr × Obj)}
   (F : Fr g L' s.heap m) (M : LawM m a2 a3 a4 a5 a6 ov un pt bg wh us u1 u2 u3 u4 u5 u6)
   (N : News g L' s.heap ((a6, W.listOf #[.float f1 k1, .float f2 k2] 0) :: (a5, o5) :: (a4, o4) :: (a3, o3) :: (a2, o2) :: more))
   (lo2 : LObj o2 v2) (lo3 : LObj o3 v3) (lo4 : LObj o4 v4) (lo5 : LObj o5 v5) (hl2 : v2.length ≤ 31) (hl3 : v3.length ≤ 31) (hl4 : v4.length ≤ 31) (hl5 : v5.length ≤ 64) (i2 : IntsAre v2 dat) (i3 : IntsAre v3 gr) (i4 : IntsAre v4 wt) (b4 : ∀ v ∈ v4, ∃ n t, v = .int n t ∧ n.natAbs < 2 ^ 4)
   (k : ∀ v s' more', s'.gens = s.gens → s'.drawn = s.drawn → s'.os = s.os → (∀ q ∈ ((a6, W.listOf #[.float f1 k1, .float f2 k2] 0) :: (a5, o5) :: (a4, o4) :: (a3, o3) :: (a2, o2) :: more : List (Addr × Obj)), q ∈ more') → Fr g L' s'.heap m → News g L' s'.heap more' → HasW more' v (fun vs ws o u => (∃ t1 t2 t3 t4, vs = [.int 0 t1, .int 0 t2] ++ v2 ++ [.int 0 t3, .int 0 t4]) ∧ (∃ ys f3 f4 k3 k4, ws = [.float f1 k1, .float f2 k2] ++ ys ++ [.float f3 k3, .float f4 k4] ∧ Paired GOne v4 ys ∧ f3 = Float64.neg f2 ∧ f4 = Float64.neg f1) ∧ o = ov ∧ u = un) → Q v s') :
   wpAny (model PySem.Challenge.rw_kp0013_02.row.prog w) (callerA.deeper (envOf "law" S L' 89 (.ref 88))) (eval e (envOf "law" S L' 89 (.ref 88))) Q E s := by
  revert X; k_fill; intro X
  have Xg := X.keeps B.stays
  have Tg := T.keeps B.stays
  conv at eS => rhs; whnf
  conv at ee => rhs; whnf
  subst eS ee
  have eM := M.pin
  rw [eM] at F
  clear M
  (repeat' ((fail_if_success (with_reducible first | show ∃ _, _ | show wpAny _ _ (eval (Expr.ListComp _ _ _ _) _) _ _ _ | show wpAny _ _ (binaryOp .Mult _ _) _ _ _ | show wpAny _ _ (binaryOp .Pow _ _) _ _ _ | show wpAny _ _ (call (Value.builtin "len") _) _ _ _ | show wpAny _ _ (binaryOp .Add (Value.ref _) (Value.ref _)) _ _ _)); first | (k_unfold; (try dsimp only)) | walk1 | (dsimp only; walk1)))
  rename Fr _ _ _ _ => F
  rename News _ _ _ _ => N
  refine add_L F N (by ((repeat (first | exact List.mem_cons_self | apply List.mem_cons_of_mem)))) (by first | assumption | exact .of) (by ((repeat (first | exact List.mem_cons_self | apply List.mem_cons_of_mem)))) (by first | assumption | exact .of) (by simp; try omega) (fun _ _ _ _ => ?_)
  clear F N
  (repeat' ((fail_if_success (with_reducible first | show ∃ _, _ | show wpAny _ _ (eval (Expr.ListComp _ _ _ _) _) _ _ _ | show wpAny _ _ (binaryOp .Mult _ _) _ _ _ | show wpAny _ _ (binaryOp .Pow _ _) _ _ _ | show wpAny _ _ (call (Value.builtin "len") _) _ _ _ | show wpAny _ _ (binaryOp .Add (Value.ref _) (Value.ref _)) _ _ _)); first | (k_unfold; (try dsimp only)) | walk1 | (dsimp only; walk1)))
  rename Fr _ _ _ _ => F
  rename News _ _ _ _ => N
  refine add_L F N (by ((repeat (first | exact List.mem_cons_self | apply List.mem_cons_of_mem)))) (by first | assumption | exact .of) (by ((repeat (first | exact List.mem_cons_self | apply List.mem_cons_of_mem)))) (by first | assumption | exact .of) (by simp; try omega) (fun _ _ _ _ => ?_)
  clear F N
  (repeat' ((fail_if_success (with_reducible first | show ∃ _, _ | show wpAny _ _ (eval (Expr.ListComp _ _ _ _) _) _ _ _ | show wpAny _ _ (binaryOp .Mult _ _) _ _ _ | show wpAny _ _ (binaryOp .Pow _ _) _ _ _ | show wpAny _ _ (call (Value.builtin "len") _) _ _ _ | show wpAny _ _ (binaryOp .Add (Value.ref _) (Value.ref _)) _ _ _)); first | (k_unfold; (try dsimp only)) | walk1 | (dsimp only; walk1)))
  rename Fr _ _ _ _ => F
  rename News _ _ _ _ => N
  refine lc_map (GOne) (rv := v4) rfl (fun Q' h => nameX_L F (by rfl) h) (lo4.is (N (a4, o4) (by ((repeat (first | exact List.mem_cons_self | apply List.mem_cons_of_mem))))).1) (by omega) ?elt ?fin
  case elt =>
    intro C v s₃ m₃ E'' hv hn3 hm3 old
    obtain ⟨n, t, rfl, bn⟩ := b4 v hv
    exact elt_onemul rfl fl_one hn3 hm3 (Nat.lt_of_lt_of_le bn (Nat.pow_le_pow_right (by decide) (by decide))) (by have := rep_small (k := 0) bn (by decide) (by decide); rwa [Int.natAbs_mul, natAbs_pow] at this) (fun r tk hf => ⟨n, t, r, tk, rfl, rfl, hf⟩) rfl rfl (by decide)
  intro D h7 tk7 ys k7 nD hD hp
  obtain ⟨F1, oD, N1, lD⟩ := new_L F N k7 nD hD
  clear F N hD k7 nD
  (repeat' ((fail_if_success (with_reducible first | show ∃ _, _ | show wpAny _ _ (eval (Expr.ListComp _ _ _ _) _) _ _ _ | show wpAny _ _ (binaryOp .Mult _ _) _ _ _ | show wpAny _ _ (binaryOp .Pow _ _) _ _ _ | show wpAny _ _ (call (Value.builtin "len") _) _ _ _ | show wpAny _ _ (binaryOp .Add (Value.ref _) (Value.ref _)) _ _ _)); first | (k_unfold; (try dsimp only)) | walk1 | (dsimp only; walk1)))
  have hyl : v4.length = ys.length := hp.length
  rename Fr _ _ _ _ => F
  rename News _ _ _ _ => N
  refine add_L F N (by ((repeat (first | exact List.mem_cons_self | apply List.mem_cons_of_mem)))) (by first | assumption | exact .of) (by ((repeat (first | exact List.mem_cons_self | apply List.mem_cons_of_mem)))) (by first | assumption | exact .of) (by simp; try omega) (fun _ _ _ _ => ?_)
  clear F N
  (repeat' ((fail_if_success (with_reducible first | show ∃ _, _ | show wpAny _ _ (eval (Expr.ListComp _ _ _ _) _) _ _ _ | show wpAny _ _ (binaryOp .Mult _ _) _ _ _ | show wpAny _ _ (binaryOp .Pow _ _) _ _ _ | show wpAny _ _ (call (Value.builtin "len") _) _ _ _ | show wpAny _ _ (binaryOp .Add (Value.ref _) (Value.ref _)) _ _ _)); first | (k_unfold; (try dsimp only)) | walk1 | (dsimp only; walk1)))
  rename Fr _ _ _ _ => F
  rename News _ _ _ _ => N
  refine add_L F N (by ((repeat (first | exact List.mem_cons_self | apply List.mem_cons_of_mem)))) (by first | assumption | exact .of) (by ((repeat (first | exact List.mem_cons_self | apply List.mem_cons_of_mem)))) (by first | assumption | exact .of) (by simp; try omega) (fun _ _ _ _ => ?_)
  clear F N
  (repeat' ((fail_if_success (with_reducible first | show ∃ _, _ | show wpAny _ _ (eval (Expr.ListComp _ _ _ _) _) _ _ _ | show wpAny _ _ (binaryOp .Mult _ _) _ _ _ | show wpAny _ _ (binaryOp .Pow _ _) _ _ _ | show wpAny _ _ (call (Value.builtin "len") _) _ _ _ | show wpAny _ _ (binaryOp .Add (Value.ref _) (Value.ref _)) _ _ _)); first | (k_unfold; (try dsimp only)) | walk1 | (dsimp only; walk1)))
  rename Fr _ _ _ _ => F
  rename News _ _ _ _ => N
  refine k _ _ _ rfl rfl rfl (fun q hq => by repeat (first | exact hq | apply List.mem_cons_of_mem)) (by rw [eM]; exact F) N ⟨_, _, _, _, _, _, _, _, _, _, _, _, rfl, (by ((repeat (first | exact List.mem_cons_self | apply List.mem_cons_of_mem)))), (by ((repeat (first | exact List.mem_cons_self | apply List.mem_cons_of_mem)))), (by first | assumption | exact .of), (by ((repeat (first | exact List.mem_cons_self | apply List.mem_cons_of_mem)))), (by first | assumption | exact .of), ⟨_, _, _, _, rfl⟩, ⟨_, _, _, _, _, rfl, hp, rfl, rfl⟩, rfl, rfl⟩
end Mine
end
theorem Mine.anewL6 : True := by
  w_top off
  exact trivial
section
open PySem PySem.W PyProof.Rows PySem.Calls
set_option Elab.async false
set_option maxRecDepth 100000
set_option maxHeartbeats 2000000
set_option exponentiation.threshold 3000
set_option linter.unusedVariables false
namespace Mine
def named (q : Addr × Obj) : Bool := match q.2.cls with
  | .none => false
  | _ => true
theorem named_ne {q : Addr × Obj} (h : named q = true) : q.2.cls ≠ .none := fun e => by unfold named at h; rw [e] at h; cases h
theorem named_t {q : Addr × Obj} {t : String} (h : q.2.cls = .type t) : named q = true := by unfold named; rw [h]
theorem HasW.row {prog : Program} {w : World} {rows rows' : List (Addr × Obj)} {v : Value} {P : List Value → List Value → Int → Int → Prop} (h : HasW rows v P) (s : ∀ q ∈ rows, q ∈ rows') (R : ∀ vs ws o u, P vs ws o u → RowW prog w vs ws o u) : Row prog w (rows'.filter named) v := by
  obtain ⟨T, x, y, ox, oy, c, vs, ws, o, u, t1, t2, rfl, h1, h2, l2, h3, l3, p⟩ := h
  obtain ⟨ys, num, r1, r2, r3, r4, r5, r6, r7, r8⟩ := R _ _ _ _ p
  exact .wt (List.mem_filter.mpr ⟨s _ h1, rfl⟩) (List.mem_filter.mpr ⟨s _ h2, named_t l2.1⟩) l2 (List.mem_filter.mpr ⟨s _ h3, named_t l3.1⟩) l3 r1 r2 r3 r4 r5 r6 r7 r8
theorem HasN.row {prog : Program} {w : World} {rows rows' : List (Addr × Obj)} {v : Value} {P : List Value → Int → Int → Prop} (h : HasN rows v P) (s : ∀ q ∈ rows, q ∈ rows') (R : ∀ vs o u, P vs o u → RowN vs o u) : Row prog w (rows'.filter named) v := by
  obtain ⟨T, x, ox, c, vs, o, u, t1, t2, rfl, h1, h2, l2, p⟩ := h
  obtain ⟨xs, r1, r2, r3, r4, r5⟩ := R _ _ _ p
  exact .no (List.mem_filter.mpr ⟨s _ h1, rfl⟩) (List.mem_filter.mpr ⟨s _ h2, named_t l2.1⟩) l2 r1 r2 r3 r4 r5
theorem mem5 {α : Type} {p1 p2 p3 p4 p5 q : α} {l : List α} (h : q ∈ l) : q ∈ p1 :: p2 :: p3 :: p4 :: p5 :: l := List.mem_cons_of_mem _ (List.mem_cons_of_mem _ (List.mem_cons_of_mem _ (List.mem_cons_of_mem _ (List.mem_cons_of_mem _ h))))
theorem hide4 {g h : Heap} {L : Addr} {p6 : Addr × Obj} {a5 a4 a3 a2 : Addr} {v5 v4 v3 v2 : List Value} {c5 c4 c3 c2 : Nat} {more : List (Addr × Obj)} (N : News g L h (p6 :: (a5, W.listOf v5.toArray c5) :: (a4, W.listOf v4.toArray c4) :: (a3, W.listOf v3.toArray c3) :: (a2, W.listOf v2.toArray c2) :: more)) :
    ∃ o5 o4 o3 o2, LObj o5 v5 ∧ LObj o4 v4 ∧ LObj o3 v3 ∧ LObj o2 v2 ∧ News g L h (p6 :: (a5, o5) :: (a4, o4) :: (a3, o3) :: (a2, o2) :: more) := ⟨_, _, _, _, .of, .of, .of, .of, N⟩
theorem carry5 {g h : Heap} {L : Addr} {p1 p2 p3 p4 p5 : Addr × Obj} {l more : List (Addr × Obj)} (N : News g L h l) (S : ∀ q ∈ p1 :: p2 :: p3 :: p4 :: p5 :: more, q ∈ l) : News g L h (p1 :: p2 :: p3 :: p4 :: p5 :: l) :=
  newsSub N fun q hq => by
    simp only [List.mem_cons] at hq S
    rcases hq with h | h | h | h | h | h
    · exact S _ (.inl h)
    · exact S _ (.inr (.inl h))
    · exact S _ (.inr (.inr (.inl h)))
    · exact S _ (.inr (.inr (.inr (.inl h))))
    · exact S _ (.inr (.inr (.inr (.inr (.inl h)))))
    · exact h
theorem law6 {w : World} {p : Program} {loose : List Str} {mean : ExcName → Option Value} {mg mb : Str → Option Value} {base g : Heap} {s : Shared} {Q : Flow → Shared → Prop} {E : Value → Shared → Prop} {L' : Addr} {m : Str → Option Value} {S : Scope} {b : List Stmt} (eS : S = defS 8) (eb : b = defBs 8 8)
   (B : Below callerA base [] g) (X : (hd2.heap_39 w.params).In base) (T : Top p loose mean mg mb base) (C58 : CodeHd base 62 58) (h58 : base.get? 58 = none) (h58L : 58 ≠ L') (hg58 : g.get? 58 = none)
   {a1 a2 a3 a4 a5 : Addr} {c2 c3 c4 : Nat} {v1 v2 v3 v4 v5 : List Value} {c5 : Nat} {sc dat gr wt : List Int} {ov un pt bg wh us : Int} {u1 u2 u3 u4 u5 u6 : Tok} {more : List (Addr × Obj)}
   (F : Fr g L' s.heap (fun q => if q = "script" then some (.ref a1) else if q = "data" then some (.ref a2) else if q = "great" then some (.ref a3) else if q = "weights" then some (.ref a4) else if q = "over" then some (.int ov u1) else if q = "under" then some (.int un u2) else if q = "point" then some (.int pt u3) else if q = "big" then some (.int bg u4) else if q = "whole" then some (.int wh u5) else if q = "floats" then some (.ref a5) else if q = "units" then some (.int us u6) else m q)) (N : News g L' s.heap ((a5, W.listOf v5.toArray c5) :: (a4, W.listOf v4.toArray c4) :: (a3, W.listOf v3.toArray c3) :: (a2, W.listOf v2.toArray c2) :: (a1, W.listOf v1.toArray 0) :: more))
   (hn5 : ∀ q ∈ ((a4, W.listOf v4.toArray c4) :: (a3, W.listOf v3.toArray c3) :: (a2, W.listOf v2.toArray c2) :: (a1, W.listOf v1.toArray 0) :: more : List (Addr × Obj)), q.1 ≠ a5) (i1 : IntsAre v1 sc) (len : sc.length ≤ 31) (i2 : IntsAre v2 dat) (i3 : IntsAre v3 gr) (i4 : IntsAre v4 wt) (l2 : dat.length = sc.length) (l3 : gr.length = sc.length) (l4 : wt.length = sc.length) (b2 : ∀ v ∈ v2, ∃ n t, v = .int n t ∧ n.natAbs < 2 ^ 40) (b3 : ∀ v ∈ v3, ∃ n t, v = .int n t ∧ n.natAbs < 2 ^ 900) (b4 : ∀ v ∈ v4, ∃ n t, v = .int n t ∧ n.natAbs < 2 ^ 4) (hF : FltAre v5 sc)
   (bu : un.natAbs < 2 ^ 20) (bb : ∃ e : Nat, e < 1000 ∧ bg = 2 ^ e)
   (htm : ∀ h', (∀ b o, g.get? b = some o → h'.get? b = some o) → (∀ q ∈ more, h'.get? q.1 = some q.2) → TabN h')
   (R1 : ∀ vs ws o u, (fun vs ws o u => vs = v2 ∧ ws = v4 ∧ o = ov ∧ u = un) vs ws o u → RowW PySem.Challenge.rw_kp0013_02.row.prog w vs ws o u)
   (R2 : ∀ vs ws o u, (fun vs ws o u => (∃ t t', vs = [.int pt t] ++ v2 ++ [.int pt t']) ∧ (∃ t t', ws = [.int bg t] ++ v4 ++ [.int (-bg) t']) ∧ o = ov ∧ u = un) vs ws o u → RowW PySem.Challenge.rw_kp0013_02.row.prog w vs ws o u)
   (R3 : ∀ vs ws o u, (fun vs ws o u => Paired (GDiv 3) v2 vs ∧ ws = v4 ∧ o = ov ∧ u = 8 * un) vs ws o u → RowW PySem.Challenge.rw_kp0013_02.row.prog w vs ws o u)
   (R4 : ∀ vs ws o u, (fun vs ws o u => vs = v2 ∧ Paired (GDiv 2) v4 ws ∧ o = ov ∧ u = un) vs ws o u → RowW PySem.Challenge.rw_kp0013_02.row.prog w vs ws o u)
   (R5 : ∀ vs ws o u, (fun vs ws o u => (∃ t, vs = v3 ++ [.int 1 t]) ∧ (∃ t, ws = v4 ++ [.int (wh - un) t]) ∧ o = (List.zipWith (· * ·) gr wt).sum + wh - un ∧ u = wh) vs ws o u → RowW PySem.Challenge.rw_kp0013_02.row.prog w vs ws o u)
   (R6 : ∀ vs ws o u, (fun vs ws o u => (∃ t, vs = v2 ++ [.int 1 t]) ∧ (∃ t, ws = v4 ++ [.int (-un) t]) ∧ o = ov ∧ u = 0) vs ws o u → RowW PySem.Challenge.rw_kp0013_02.row.prog w vs ws o u)
   (R7 : ∀ vs ws o u, (fun vs ws o u => vs = v2 ∧ (∃ t, ws = v4 ++ [.int 1 t]) ∧ o = ov ∧ u = un) vs ws o u → RowW PySem.Challenge.rw_kp0013_02.row.prog w vs ws o u)
   (R8 : ∀ vs ws o u, (fun vs ws o u => (∃ t, vs = v2 ++ [.int 1 t]) ∧ ws = v4 ∧ o = ov ∧ u = un) vs ws o u → RowW PySem.Challenge.rw_kp0013_02.row.prog w vs ws o u)
   (R9 : ∀ vs o u, (fun vs o u => vs = v2 ∧ o = pt ∧ u = (v2.length : Int)) vs o u → RowN vs o u)
   (R10 : ∀ vs o u, (fun vs o u => (∃ x1 t1 x2 t2, vs = [.float x1 t1] ++ v2 ++ [.float x2 t2] ∧ Fl x1 (-1 * bg * 2 ^ 1074) ∧ Fl x2 (1 * bg * 2 ^ 1074)) ∧ o = pt ∧ u = (v2.length : Int) + 2) vs o u → RowN vs o u)
   (R11 : ∀ (K : Nat) tk vs o u, (K : Int) + sc.length = 2 ^ Builtin.Int.intBits ((sc.length : Nat) : Int) → vs = v5 ++ List.replicate K (Value.float 0 tk) → o = us → u = (vs.length : Int) * 2 ^ 100 → RowN vs o u)
   (R12 : ∀ f1 f2 k1 k2 vs ws o u, Fl f1 (1 * 2 ^ 900 * 2 ^ 1074) → Fl f2 (1 * 2 ^ 300 * 2 ^ 1074) → (fun vs ws o u => (∃ t1 t2 t3 t4, vs = [.int 0 t1, .int 0 t2] ++ v2 ++ [.int 0 t3, .int 0 t4]) ∧ (∃ ys f3 f4 k3 k4, ws = [.float f1 k1, .float f2 k2] ++ ys ++ [.float f3 k3, .float f4 k4] ∧ Paired GOne v4 ys ∧ f3 = Float64.neg f2 ∧ f4 = Float64.neg f1) ∧ o = ov ∧ u = un) vs ws o u → RowW PySem.Challenge.rw_kp0013_02.row.prog w vs ws o u)
   (ret : ∀ s' g1 m1, KtsTurn (frs []) g g1 → Fr g1 L' s'.heap m1 → TabN s'.heap → GBare s.gens s'.gens → s'.drawn = s.drawn → s'.os = s.os → Q (.ret (.bool true)) s') :
   wpAny (model PySem.Challenge.rw_kp0013_02.row.prog w) (callerA.deeper (envOf "law" S L' 89 (.ref 88))) (execs b (envOf "law" S L' 89 (.ref 88)))
     Q E s := by
  have X0 := X
  revert X; k_fill; intro X
  have Xg := X.keeps B.stays
  have Tg := T.keeps B.stays
  conv at eS => rhs; whnf
  conv at eb => rhs; whnf
  subst eS eb
  have hl1 : v1.length = sc.length := IntsAre.length i1
  (repeat' ((fail_if_success (with_reducible first | show wpAny _ _ (call (Value.ref _) _) _ _ _ | show wpAny _ _ (call (Value.builtin "len") _) _ _ _ | show wpAny _ _ (exec (Stmt.For _ _ _ _ _) _) _ _ _ | show wpAny _ _ (binaryOp .Pow _ _) _ _ _ | show wpAny _ _ (binaryOp .Mult (Value.int _ _) _) _ _ _ | show wpAny _ _ (binaryOp .Mult (Value.float _ _) _) _ _ _)); first | (exfalso; (first | lia | omega)) | (k_unfold; (try dsimp only)) | walk1 | (dsimp only; walk1) | (leave1; walk_say "STEP leave1"; try dsimp only)))
  rename News _ _ _ _ => N
  refine call_len_list (items := v1.toArray) ⟨_, (N (a1, W.listOf v1.toArray 0) (by simp)).1, rfl, _, rfl⟩ (by simp; (first | lia | omega)) ?_
  simp only [List.size_toArray, hl1]
  (repeat' ((fail_if_success (with_reducible first | show wpAny _ _ (call (Value.ref _) _) _ _ _ | show wpAny _ _ (call (Value.builtin "len") _) _ _ _ | show wpAny _ _ (exec (Stmt.For _ _ _ _ _) _) _ _ _ | show wpAny _ _ (binaryOp .Pow _ _) _ _ _ | show wpAny _ _ (binaryOp .Mult (Value.int _ _) _) _ _ _ | show wpAny _ _ (binaryOp .Mult (Value.float _ _) _) _ _ _)); first | (exfalso; (first | lia | omega)) | (k_unfold; (try dsimp only)) | walk1 | (dsimp only; walk1) | (leave1; walk_say "STEP leave1"; try dsimp only)))
  have ib : Builtin.Int.intBits ((sc.length : Nat) : Int) ≤ 5 := intBits_le_iff.mpr (by simp; (first | lia | omega))
  refine pow_to (v := 2 ^ (Builtin.Int.intBits ((sc.length : Nat) : Int))) (by simp) (by (first | lia | omega)) (by (first | lia | omega)) ?_
  (repeat' ((fail_if_success (with_reducible first | show wpAny _ _ (call (Value.ref _) _) _ _ _ | show wpAny _ _ (call (Value.builtin "len") _) _ _ _ | show wpAny _ _ (exec (Stmt.For _ _ _ _ _) _) _ _ _ | show wpAny _ _ (binaryOp .Pow _ _) _ _ _ | show wpAny _ _ (binaryOp .Mult (Value.int _ _) _) _ _ _ | show wpAny _ _ (binaryOp .Mult (Value.float _ _) _) _ _ _)); first | (exfalso; (first | lia | omega)) | (k_unfold; (try dsimp only)) | walk1 | (dsimp only; walk1) | (leave1; walk_say "STEP leave1"; try dsimp only)))
  refine call_len_list (items := v1.toArray) ⟨_, (N (a1, W.listOf v1.toArray 0) (by simp)).1, rfl, _, rfl⟩ (by simp; (first | lia | omega)) ?_
  simp only [List.size_toArray, hl1]
  (repeat' ((fail_if_success (with_reducible first | show wpAny _ _ (call (Value.ref _) _) _ _ _ | show wpAny _ _ (call (Value.builtin "len") _) _ _ _ | show wpAny _ _ (exec (Stmt.For _ _ _ _ _) _) _ _ _ | show wpAny _ _ (binaryOp .Pow _ _) _ _ _ | show wpAny _ _ (binaryOp .Mult (Value.int _ _) _) _ _ _ | show wpAny _ _ (binaryOp .Mult (Value.float _ _) _) _ _ _)); first | (exfalso; (first | lia | omega)) | (k_unfold; (try dsimp only)) | walk1 | (dsimp only; walk1) | (leave1; walk_say "STEP leave1"; try dsimp only)))
  rename Fr _ _ _ _ => F
  obtain ⟨K, hK, hK2⟩ : ∃ K : Nat, (2 ^ Builtin.Int.intBits ((sc.length : Nat) : Int) - ((sc.length : Nat) : Int) : Int) = (K : Int) ∧ K ≤ 32 := by
    have h0 : ((sc.length : Nat) : Int).natAbs < 2 ^ Builtin.Int.intBits ((sc.length : Nat) : Int) := intBits_le_iff.mp (Nat.le_refl _)
    have h5 : (2 : Nat) ^ Builtin.Int.intBits ((sc.length : Nat) : Int) ≤ 2 ^ 5 := Nat.pow_le_pow_right (by decide) ib
    rw [Int.natAbs_natCast] at h0
    refine ⟨2 ^ Builtin.Int.intBits ((sc.length : Nat) : Int) - sc.length, ?_, by (first | lia | omega)⟩
    rw [Int.ofNat_sub (Nat.le_of_lt h0), pow_cast]
  rw [hK]
  rename_i lz hz l1
  refine KMa.mul (vs := [Value.float 0 s.toks]) F N ⟨_, (N (lz, _) List.mem_cons_self).1, rfl, _, rfl⟩ (by (first | lia | omega)) (by (first | lia | omega)) (by simp; (first | lia | omega)) rfl (fun D h7 F7 N7 l7 => ?_)
  have n5 := N7 (a5, W.listOf v5.toArray c5) (by simp)
  have nD := N7 (D, _) List.mem_cons_self
  have hnD : (List.replicate (K : Int).toNat [Value.float 0 s.toks]).flatten = List.replicate K (Value.float 0 s.toks) := by
    rw [Int.toNat_natCast]; exact rep_flat _ _
  rw [hnD] at nD
  have h5D : a5 ≠ D := fun q => Nat.lt_irrefl _ (q ▸ l7 (a5, W.listOf v5.toArray c5) (by simp))
  refine iadd_list n5.1 ⟨_, nD.1, rfl, _, rfl⟩ h5D (by simp; rw [hF.1]; (first | lia | omega)) (fun h8 c8 hs8 hl8 => ?_)
  have F8 := F7.change hs8 n5.2.1 n5.2.2
  rw [show v5.toArray ++ (List.replicate K (Value.float 0 s.toks)).toArray = (v5 ++ List.replicate K (Value.float 0 s.toks)).toArray by simp] at hl8
  have N8 : News g L' h8 ((a5, W.listOf (v5 ++ List.replicate K (Value.float 0 s.toks)).toArray c8) :: (a4, W.listOf v4.toArray c4) :: (a3, W.listOf v3.toArray c3) :: (a2, W.listOf v2.toArray c2) :: (a1, W.listOf v1.toArray 0) :: more) :=
    newsAdd (fun q hq => by
      have nq := N7 q (List.mem_cons_of_mem _ (List.mem_cons_of_mem _ (List.mem_cons_of_mem _ hq)))
      exact ⟨hs8.extBut _ _ (hn5 q hq) nq.1, nq.2⟩) hl8 n5.2.1 n5.2.2
  clear F N F7 N7 l1 l7 n5 nD hs8
  (repeat' ((fail_if_success (with_reducible first | show wpAny _ _ (call (Value.ref _) _) _ _ _ | show wpAny _ _ (call (Value.builtin "len") _) _ _ _ | show wpAny _ _ (exec (Stmt.For _ _ _ _ _) _) _ _ _ | show wpAny _ _ (binaryOp .Pow _ _) _ _ _ | show wpAny _ _ (binaryOp .Mult (Value.int _ _) _) _ _ _ | show wpAny _ _ (binaryOp .Mult (Value.float _ _) _) _ _ _)); first | (exfalso; (first | lia | omega)) | (k_unfold; (try dsimp only)) | walk1 | (dsimp only; walk1) | (leave1; walk_say "STEP leave1"; try dsimp only)))
  refine pow_to (v := 2 ^ 900) rfl (by decide) (by decide) ?_
  (repeat' ((fail_if_success (with_reducible first | show wpAny _ _ (call (Value.ref _) _) _ _ _ | show wpAny _ _ (call (Value.builtin "len") _) _ _ _ | show wpAny _ _ (exec (Stmt.For _ _ _ _ _) _) _ _ _ | show wpAny _ _ (binaryOp .Pow _ _) _ _ _ | show wpAny _ _ (binaryOp .Mult (Value.int _ _) _) _ _ _ | show wpAny _ _ (binaryOp .Mult (Value.float _ _) _) _ _ _)); first | (exfalso; (first | lia | omega)) | (k_unfold; (try dsimp only)) | walk1 | (dsimp only; walk1) | (leave1; walk_say "STEP leave1"; try dsimp only)))
  refine fl_one_mul rfl fl_one (by decide) (by rw [natAbs_pow]; exact Nat.pow_lt_pow_right (by decide) (by decide)) pow900 (fun f1 k1 hf1 => ?_)
  (repeat' ((fail_if_success (with_reducible first | show wpAny _ _ (call (Value.ref _) _) _ _ _ | show wpAny _ _ (call (Value.builtin "len") _) _ _ _ | show wpAny _ _ (exec (Stmt.For _ _ _ _ _) _) _ _ _ | show wpAny _ _ (binaryOp .Pow _ _) _ _ _ | show wpAny _ _ (binaryOp .Mult (Value.int _ _) _) _ _ _ | show wpAny _ _ (binaryOp .Mult (Value.float _ _) _) _ _ _)); first | (exfalso; (first | lia | omega)) | (k_unfold; (try dsimp only)) | walk1 | (dsimp only; walk1) | (leave1; walk_say "STEP leave1"; try dsimp only)))
  refine pow_to (v := 2 ^ 300) rfl (by decide) (by decide) ?_
  (repeat' ((fail_if_success (with_reducible first | show wpAny _ _ (call (Value.ref _) _) _ _ _ | show wpAny _ _ (call (Value.builtin "len") _) _ _ _ | show wpAny _ _ (exec (Stmt.For _ _ _ _ _) _) _ _ _ | show wpAny _ _ (binaryOp .Pow _ _) _ _ _ | show wpAny _ _ (binaryOp .Mult (Value.int _ _) _) _ _ _ | show wpAny _ _ (binaryOp .Mult (Value.float _ _) _) _ _ _)); first | (exfalso; (first | lia | omega)) | (k_unfold; (try dsimp only)) | walk1 | (dsimp only; walk1) | (leave1; walk_say "STEP leave1"; try dsimp only)))
  refine fl_one_mul rfl fl_one (by decide) (by rw [natAbs_pow]; exact Nat.pow_lt_pow_right (by decide) (by decide)) pow300 (fun f2 k2 hf2 => ?_)
  (repeat' ((fail_if_success (with_reducible first | show wpAny _ _ (call (Value.ref _) _) _ _ _ | show wpAny _ _ (call (Value.builtin "len") _) _ _ _ | show wpAny _ _ (exec (Stmt.For _ _ _ _ _) _) _ _ _ | show wpAny _ _ (binaryOp .Pow _ _) _ _ _ | show wpAny _ _ (binaryOp .Mult (Value.int _ _) _) _ _ _ | show wpAny _ _ (binaryOp .Mult (Value.float _ _) _) _ _ _)); first | (exfalso; (first | lia | omega)) | (k_unfold; (try dsimp only)) | walk1 | (dsimp only; walk1) | (leave1; walk_say "STEP leave1"; try dsimp only)))
  rename Fr _ _ _ _ => F
  rename News _ _ _ _ => N
  have hl5 : v5.length = sc.length := hF.1
  obtain ⟨v5', hv5⟩ : ∃ v5', v5' = v5 ++ List.replicate K (Value.float 0 s.toks) := ⟨_, rfl⟩
  rw [← hv5] at N
  have hl5' : v5'.length ≤ 64 := by rw [hv5, List.length_append, List.length_replicate]; (first | lia | omega)
  obtain ⟨mm, M, F⟩ : ∃ mm, LawM mm a2 a3 a4 a5 _ ov un pt bg wh us u1 u2 u3 u4 u5 u6 ∧ Fr g L' _ mm := ⟨_, ⟨rfl, rfl, rfl, rfl, rfl, rfl, rfl, rfl, rfl, rfl, rfl⟩, F⟩
  obtain ⟨o5, o4, o3, o2, lo5, lo4, lo3, lo2, N⟩ := hide4 N
  have hl2 : v2.length = sc.length := (IntsAre.length i2).trans l2
  have hl3 : v3.length = sc.length := (IntsAre.length i3).trans l3
  have hl4 : v4.length = sc.length := (IntsAre.length i4).trans l4
  refine law5 rfl ⟨_, rfl⟩ X0 T C58 h58 h58L B hg58 (by intro _; rfl) ?hiter ?fin
  case fin =>
    intro s' g1 m1 TT B1 F1 hT1 gb d1 o1
    clear F N
    have N1 : News g1 L' s'.heap [] := News.nil
    (repeat' ((fail_if_success (with_reducible first | show wpAny _ _ (call (Value.ref _) _) _ _ _ | show wpAny _ _ (call (Value.builtin "len") _) _ _ _ | show wpAny _ _ (exec (Stmt.For _ _ _ _ _) _) _ _ _ | show wpAny _ _ (binaryOp .Pow _ _) _ _ _ | show wpAny _ _ (binaryOp .Mult (Value.int _ _) _) _ _ _ | show wpAny _ _ (binaryOp .Mult (Value.float _ _) _) _ _ _)); first | (exfalso; (first | lia | omega)) | (k_unfold; (try dsimp only)) | walk1 | (dsimp only; walk1) | (leave1; walk_say "STEP leave1"; try dsimp only)))
    exact ret _ _ _ TT F1 hT1 gb d1 o1
  case hiter =>
    refine hide_post fun KK EE hKK hEE => ?_
    refine Tuple_ ?_
    refine wpAny_items_cons ?_
    refine elem1 (v2 := v2) (v3 := v3) (v4 := v4) rfl rfl B X0 T F M N lo2 lo3 lo4 lo5 (by (first | lia | omega)) (by (first | lia | omega)) (by (first | lia | omega)) hl5' i2 i3 i4  (fun x1 s1 more1 g1 d1 os1 S1 F1 N1 H1 => ?_)
    refine wpAny_items_cons ?_
    refine elem2 (v2 := v2) (v3 := v3) (v4 := v4) rfl rfl B X0 T F1 M (carry5 N1 S1) lo2 lo3 lo4 lo5 (by (first | lia | omega)) (by (first | lia | omega)) (by (first | lia | omega)) hl5' i2 i3 i4  (fun x2 s2 more2 g2 d2 os2 S2 F2 N2 H2 => ?_)
    refine wpAny_items_cons ?_
    refine elem3 (v2 := v2) (v3 := v3) (v4 := v4) rfl rfl B X0 T F2 M (carry5 N2 S2) lo2 lo3 lo4 lo5 (by (first | lia | omega)) (by (first | lia | omega)) (by (first | lia | omega)) hl5' i2 i3 i4 b2 bu (fun x3 s3 more3 g3 d3 os3 S3 F3 N3 H3 => ?_)
    refine wpAny_items_cons ?_
    refine elem4 (v2 := v2) (v3 := v3) (v4 := v4) rfl rfl B X0 T F3 M (carry5 N3 S3) lo2 lo3 lo4 lo5 (by (first | lia | omega)) (by (first | lia | omega)) (by (first | lia | omega)) hl5' i2 i3 i4 b4 (fun x4 s4 more4 g4 d4 os4 S4 F4 N4 H4 => ?_)
    refine wpAny_items_cons ?_
    refine elem5 (v2 := v2) (v3 := v3) (v4 := v4) rfl rfl B X0 T F4 M (carry5 N4 S4) lo2 lo3 lo4 lo5 (by (first | lia | omega)) (by (first | lia | omega)) (by (first | lia | omega)) hl5' i2 i3 i4 b3 b4 (hl3.trans hl4.symm) (fun x5 s5 more5 g5 d5 os5 S5 F5 N5 H5 => ?_)
    refine wpAny_items_cons ?_
    refine elem6 (v2 := v2) (v3 := v3) (v4 := v4) rfl rfl B X0 T F5 M (carry5 N5 S5) lo2 lo3 lo4 lo5 (by (first | lia | omega)) (by (first | lia | omega)) (by (first | lia | omega)) hl5' i2 i3 i4  (fun x6 s6 more6 g6 d6 os6 S6 F6 N6 H6 => ?_)
    refine wpAny_items_cons ?_
    refine elem7 (v2 := v2) (v3 := v3) (v4 := v4) rfl rfl B X0 T F6 M (carry5 N6 S6) lo2 lo3 lo4 lo5 (by (first | lia | omega)) (by (first | lia | omega)) (by (first | lia | omega)) hl5' i2 i3 i4  (fun x7 s7 more7 g7 d7 os7 S7 F7 N7 H7 => ?_)
    refine wpAny_items_cons ?_
    refine elem8 (v2 := v2) (v3 := v3) (v4 := v4) rfl rfl B X0 T F7 M (carry5 N7 S7) lo2 lo3 lo4 lo5 (by (first | lia | omega)) (by (first | lia | omega)) (by (first | lia | omega)) hl5' i2 i3 i4  (fun x8 s8 more8 g8 d8 os8 S8 F8 N8 H8 => ?_)
    refine wpAny_items_cons ?_
    refine elem9 (v2 := v2) (v3 := v3) (v4 := v4) rfl rfl B X0 T F8 M (carry5 N8 S8) lo2 lo3 lo4 lo5 (by (first | lia | omega)) (by (first | lia | omega)) (by (first | lia | omega)) hl5' i2 i3 i4  (fun x9 s9 more9 g9 d9 os9 S9 F9 N9 H9 => ?_)
    refine wpAny_items_cons ?_
    refine elem10 (v2 := v2) (v3 := v3) (v4 := v4) rfl rfl B X0 T F9 M (carry5 N9 S9) lo2 lo3 lo4 lo5 (by (first | lia | omega)) (by (first | lia | omega)) (by (first | lia | omega)) hl5' i2 i3 i4 bb (fun x10 s10 more10 g10 d10 os10 S10 F10 N10 H10 => ?_)
    refine wpAny_items_cons ?_
    refine elem11 (v2 := v2) (v3 := v3) (v4 := v4) rfl rfl B X0 T F10 M (carry5 N10 S10) lo2 lo3 lo4 lo5 (by (first | lia | omega)) (by (first | lia | omega)) (by (first | lia | omega)) hl5' i2 i3 i4  (fun x11 s11 more11 g11 d11 os11 S11 F11 N11 H11 => ?_)
    refine wpAny_items_cons ?_
    refine elem12 (v2 := v2) (v3 := v3) (v4 := v4) rfl rfl B X0 T F11 M (carry5 N11 S11) lo2 lo3 lo4 lo5 (by (first | lia | omega)) (by (first | lia | omega)) (by (first | lia | omega)) hl5' i2 i3 i4 b4 (fun x12 s12 more12 g12 d12 os12 S12 F12 N12 H12 => ?_)
    refine wpAny_items_nil ?_
    refine newTuple_N F12 N12 (fun h13 F13 N13 => ?_) (by show 12 ≤ sizeLine; decide)
    have U12 : ∀ q ∈ more12, q ∈ more12 := fun q h => h
    have U11 : ∀ q ∈ more11, q ∈ more12 := fun q h => U12 q (S12 q (mem5 h))
    have U10 : ∀ q ∈ more10, q ∈ more12 := fun q h => U11 q (S11 q (mem5 h))
    have U9 : ∀ q ∈ more9, q ∈ more12 := fun q h => U10 q (S10 q (mem5 h))
    have U8 : ∀ q ∈ more8, q ∈ more12 := fun q h => U9 q (S9 q (mem5 h))
    have U7 : ∀ q ∈ more7, q ∈ more12 := fun q h => U8 q (S8 q (mem5 h))
    have U6 : ∀ q ∈ more6, q ∈ more12 := fun q h => U7 q (S7 q (mem5 h))
    have U5 : ∀ q ∈ more5, q ∈ more12 := fun q h => U6 q (S6 q (mem5 h))
    have U4 : ∀ q ∈ more4, q ∈ more12 := fun q h => U5 q (S5 q (mem5 h))
    have U3 : ∀ q ∈ more3, q ∈ more12 := fun q h => U4 q (S4 q (mem5 h))
    have U2 : ∀ q ∈ more2, q ∈ more12 := fun q h => U3 q (S3 q (mem5 h))
    have U1 : ∀ q ∈ more1, q ∈ more12 := fun q h => U2 q (S2 q (mem5 h))
    have U0 : ∀ q ∈ more, q ∈ more12 := fun q h => U1 q (S1 q (mem5 (List.mem_cons_of_mem _ h)))
    refine hKK _ _ ⟨_, _, more12.filter named, _, rfl, ?_, fun q hq => named_ne (List.mem_filter.mp hq).2, ⟨_, (N13 _ List.mem_cons_self).1, rfl, _, rfl⟩, (N13 _ List.mem_cons_self).2.2, (N13 _ List.mem_cons_self).2.1, F13, newsSub N13 (fun q hq => List.mem_cons_of_mem _ (List.mem_filter.mp hq).1), htm _ F13.keep (fun q hq => (N13 q (List.mem_cons_of_mem _ (U0 q hq))).1), (((((((((((g12.trans g11).trans g10).trans g9).trans g8).trans g7).trans g6).trans g5).trans g4).trans g3).trans g2).trans g1), (((((((((((d12.trans d11).trans d10).trans d9).trans d8).trans d7).trans d6).trans d5).trans d4).trans d3).trans d2).trans d1), (((((((((((os12.trans os11).trans os10).trans os9).trans os8).trans os7).trans os6).trans os5).trans os4).trans os3).trans os2).trans os1)⟩
    intro v hv
    simp only [List.mem_toArray, List.mem_cons, List.not_mem_nil, or_false] at hv
    rcases hv with rfl | rfl | rfl | rfl | rfl | rfl | rfl | rfl | rfl | rfl | rfl | rfl
    · exact H1.row U1 R1
    · exact H2.row U2 R2
    · exact H3.row U3 R3
    · exact H4.row U4 R4
    · exact H5.row U5 R5
    · exact H6.row U6 R6
    · exact H7.row U7 R7
    · exact H8.row U8 R8
    · exact H9.row U9 R9
    · exact H10.row U10 R10
    · exact H11.row U11 (fun vs o u p => R11 K _ vs o u (by (first | lia | omega)) (p.1.trans hv5) p.2.1 (by rw [p.1]; exact p.2.2))
    · exact H12.row U12 (fun vs ws o u p => R12 _ _ _ _ vs ws o u hf1 hf2 p)
end Mine
end
theorem Mine.anewL7 : True := by
  w_top off
  exact trivial
section
open PySem PySem.W PyProof.Rows PySem.Calls
set_option Elab.async false
set_option maxRecDepth 100000
set_option maxHeartbeats 1000000
set_option linter.unusedVariables false
namespace Mine
theorem allLt_mem {d : Addr} {l : List (Addr × Obj)} (h : AllLt d l) : ∀ q ∈ l, q.1 < d := by
  induction l with
  | nil => intro q hq; cases hq
  | cons p r ih =>
    intro q hq
    cases hq with
    | head => exact h.1
    | tail _ hq => exact ih h.2 q hq
theorem law7 {w : World} {p : Program} {loose : List Str} {mean : ExcName → Option Value} {mg mb : Str → Option Value} {base g : Heap} {s : Shared} {Q : Flow → Shared → Prop} {E : Value → Shared → Prop} {L' : Addr} {m : Str → Option Value} {S : Scope} {b : List Stmt} (eS : S = defSS 8) (eb : b = defBs 8 4)
   (B : Below callerA base [] g) (X : (hd2.heap_39 w.params).In base) (T : Top p loose mean mg mb base) (C58 : CodeHd base 62 58) (h58 : base.get? 58 = none) (h58L : 58 ≠ L') (hg58 : g.get? 58 = none)
   {a1 a2 a3 a4 : Addr} {c2 c3 c4 : Nat} {v1 v2 v3 v4 : List Value} {sc dat gr wt : List Int} {more : List (Addr × Obj)}
   (F : Fr g L' s.heap m) (hm1 : m "script" = some (.ref a1)) (hm2 : m "data" = some (.ref a2)) (hm3 : m "great" = some (.ref a3)) (hm4 : m "weights" = some (.ref a4))
   (N : News g L' s.heap ((a4, W.listOf v4.toArray c4) :: (a3, W.listOf v3.toArray c3) :: (a2, W.listOf v2.toArray c2) :: (a1, W.listOf v1.toArray 0) :: more))
   (i1 : IntsAre v1 sc) (i2 : IntsAre v2 dat) (i3 : IntsAre v3 gr) (i4 : IntsAre v4 wt) (len : sc.length ≤ 31) (l2 : dat.length = sc.length) (l3 : gr.length = sc.length) (l4 : wt.length = sc.length) (b2 : ∀ v ∈ v2, ∃ n t, v = .int n t ∧ n.natAbs < 2 ^ 40) (b3 : ∀ v ∈ v3, ∃ n t, v = .int n t ∧ n.natAbs < 2 ^ 900) (b4 : ∀ v ∈ v4, ∃ n t, v = .int n t ∧ n.natAbs < 2 ^ 4) (bu : wt.sum.natAbs < 2 ^ 20)
   (htm : ∀ h', (∀ b o, g.get? b = some o → h'.get? b = some o) → (∀ q ∈ more, h'.get? q.1 = some q.2) → TabN h')
   (R : Rows12 PySem.Challenge.rw_kp0013_02.row.prog w v2 v3 v4 sc dat gr wt)
   (ret : ∀ s' g1 m1, KtsTurn (frs []) g g1 → Fr g1 L' s'.heap m1 → TabN s'.heap → GBare s.gens s'.gens → s'.drawn = s.drawn → s'.os = s.os → Q (.ret (.bool true)) s') :
   wpAny (model PySem.Challenge.rw_kp0013_02.row.prog w) (callerA.deeper (envOf "law" S L' 89 (.ref 88))) (execs b (envOf "law" S L' 89 (.ref 88)))
     Q E s := by
  have X0 := X
  revert X; k_fill; intro X
  have Xg := X.keeps B.stays
  have Tg := T.keeps B.stays
  conv at eS => rhs; whnf
  conv at eb => rhs; whnf
  subst eS eb
  rw [pin4 hm1 hm2 hm3 hm4] at F
  (repeat' ((fail_if_success (with_reducible first | show wpAny _ _ (call (Value.ref _) _) _ _ _ | show wpAny _ _ (exec (Stmt.For _ _ _ _ _) _) _ _ _ | show wpAny _ _ (eval (Expr.ListComp _ _ _ _) _) _ _ _)); first | (exfalso; omega) | (k_unfold; (try dsimp only)) | walk1 | (dsimp only; walk1) | (leave1; walk_say "STEP leave1"; try dsimp only)))
  rename Fr _ _ _ _ => F
  rename News _ _ _ _ => N
  have n2 := N (a2, W.listOf v2.toArray c2) (by simp)
  have n4 := N (a4, W.listOf v4.toArray c4) (by simp)
  refine lc_zip (r1 := a2) (r2 := a4) (xs := v2) (ys := v4) GMul rfl (by rw [IntsAre.length i2]; omega) (by rw [IntsAre.length i2, IntsAre.length i4]; omega) ?_
  (repeat' ((fail_if_success (with_reducible first | show ∃ _, _ | show wpAny _ _ (call (Value.type "zip") _) _ _ _)); first | (k_unfold; (try dsimp only)) | walk1 | (dsimp only; walk1)))
  refine zip_rows F ⟨_, n2.1, rfl, _, rfl⟩ ⟨_, n4.1, rfl, _, rfl⟩ (fun h2 z TI TO j1 j2 ap st F2 k2 z1 z2 z3 z4 zl => ?_)
  (repeat' ((fail_if_success (with_reducible first | show ∃ _, _)); first | (k_unfold; (try dsimp only)) | walk1 | (dsimp only; walk1)))
  refine ⟨z, TI, TO, j1, j2, rfl, ap, st, ?elt, ?fin⟩
  case elt =>
    intro C x y i s₃ m₃ E' hx hy hn ha hb
    obtain ⟨n, t, rfl, bn⟩ := b2 x (List.mem_of_getElem? hx)
    obtain ⟨k, u, rfl, bk⟩ := b4 y (List.mem_of_getElem? hy)
    exact elt_mul hn ha hb (IntMulOk.of_le (intBits_le_iff.mpr bn) (intBits_le_iff.mpr bk) (by decide)) (fun tk => ⟨_, _, _, _, _, rfl, rfl, rfl⟩) rfl rfl rfl (by decide) (by decide)
  case fin =>
    intro D h3 tk3 vs3 k3 nD hD hvl hG
    have I3 := ints_zip i2 (ys := v4) (vs := vs3) i4 (by rw [IntsAre.length i2, IntsAre.length i4]; omega) hvl hG
    obtain ⟨kk, nD3⟩ := zip_keep k2 z1 z2 z3 z4 k3 nD
    obtain ⟨F4, oD, N5, lD⟩ := new_L F N kk nD3 hD
    obtain ⟨cD, nD5, dD⟩ := lD
    clear F N F2 kk nD3 k2 k3 nD
    (repeat' ((fail_if_success (with_reducible first | show wpAny _ _ (call (Value.ref _) _) _ _ _ | show wpAny _ _ (exec (Stmt.For _ _ _ _ _) _) _ _ _ | show wpAny _ _ (eval (Expr.ListComp _ _ _ _) _) _ _ _)); first | (exfalso; omega) | (k_unfold; (try dsimp only)) | walk1 | (dsimp only; walk1) | (leave1; walk_say "STEP leave1"; try dsimp only)))
    rename Fr _ _ _ _ => F
    rename News _ _ _ _ => N
    rename_i a5 hx1 la5 Dx hx3 lDx hx4 hx5 hx6
    have hn : ∀ q ∈ ((a4, W.listOf v4.toArray c4) :: (a3, W.listOf v3.toArray c3) :: (a2, W.listOf v2.toArray c2) :: (a1, W.listOf v1.toArray 0) :: more : List (Addr × Obj)), q.1 ≠ a5 := by
      obtain ⟨_, _, _, q4, q3, q2, q1, qm⟩ := la5
      intro q hq
      simp only [List.mem_cons] at hq
      rcases hq with rfl | rfl | rfl | rfl | hq
      · exact Nat.ne_of_lt q4
      · exact Nat.ne_of_lt q3
      · exact Nat.ne_of_lt q2
      · exact Nat.ne_of_lt q1
      · exact Nat.ne_of_lt (allLt_mem qm q hq)
    refine law3 (Q := fun _ _ => True) (E := fun _ _ => True) rfl rfl B X0 T F rfl rfl rfl (a1 := a1) (by simp) (newsSub (l := ((a5, W.listOf #[] 0) :: (a4, W.listOf v4.toArray c4) :: (a3, W.listOf v3.toArray c3) :: (a2, W.listOf v2.toArray c2) :: (a1, W.listOf v1.toArray 0) :: more)) N (fun q hq => ?sub)) hn i1 len (fun h6 tk6 m6 c6 v5 t6 F6 hm6 hu6 N6 hF6 => ?_)
    case sub =>
      simp only [List.mem_cons] at hq ⊢
      rcases hq with h | h | h | h | h | h <;> simp [h]
    clear F N
    dsimp only
    have o6 : ∀ x : Str, x ≠ "a" → x ≠ "part" → x ≠ "size" → x ≠ "units" → ∀ v, _ = some v → m6 x = some v := fun x h1 h2 h3 h4 v e => (hm6 x h1 h2 h3 h4).trans e
    rw [pin11 (k1 := "script") (k2 := "data") (k3 := "great") (k4 := "weights") (k5 := "over") (k6 := "under") (k7 := "point") (k8 := "big") (k9 := "whole") (k10 := "floats") (k11 := "units")
      (o6 _ (by decide) (by decide) (by decide) (by decide) _ rfl) (o6 _ (by decide) (by decide) (by decide) (by decide) _ rfl) (o6 _ (by decide) (by decide) (by decide) (by decide) _ rfl) (o6 _ (by decide) (by decide) (by decide) (by decide) _ rfl) (o6 _ (by decide) (by decide) (by decide) (by decide) _ rfl) (o6 _ (by decide) (by decide) (by decide) (by decide) _ rfl) (o6 _ (by decide) (by decide) (by decide) (by decide) _ rfl) (o6 _ (by decide) (by decide) (by decide) (by decide) _ rfl) (o6 _ (by decide) (by decide) (by decide) (by decide) _ rfl) (o6 _ (by decide) (by decide) (by decide) (by decide) _ rfl) hu6] at F6
    exact law6 rfl rfl B X0 T C58 h58 h58L hg58 F6 N6 hn i1 len i2 i3 i4 l2 l3 l4 b2 b3 b4 hF6 bu ⟨(sc.sum.fmod 1000).toNat, by omega, rfl⟩ htm R.r1 R.r2 R.r3 R.r4 R.r5 R.r6 R.r7 R.r8 R.r9 R.r10 (R.r11 v5 hF6) R.r12 ret
end Mine
end
theorem Mine.anewL8 : True := by
  w_top off
  exact trivial
section
open PySem PySem.W PyProof.Rows PySem.Calls
set_option Elab.async false
set_option maxRecDepth 100000
set_option maxHeartbeats 2000000
set_option linter.unusedVariables false
namespace Mine
/-- the plain law: what it says of each of the twelve, whatever the script -/
def PlainLaw : Prop := ∀ (w : World) (v2 v3 v4 : List Value) (sc dat gr wt : List Int), IntsAre v2 dat → IntsAre v3 gr → IntsAre v4 wt → sc.length ≤ 31 → dat.length = sc.length → gr.length = sc.length → wt.length = sc.length →
  (∀ d ∈ dat, d.natAbs < 2 ^ 40) → (∀ d ∈ gr, d.natAbs < 2 ^ 900) → (∀ d ∈ wt, d.natAbs ≤ 8) → Rows12 PySem.Challenge.rw_kp0013_02.row.prog w v2 v3 v4 sc dat gr wt
theorem rest_lt {P : Nat} (hP : 0 < P) {Q : Int} (hQ : Q = P) (k : Int) : (if (if k < 0 then -k else k) < Q then k else k.fmod Q).natAbs < P := by
  subst hQ
  have h0 := Int.fmod_nonneg_of_pos k (b := (P : Int)) (by grind)
  have h1 := Int.fmod_lt_of_pos k (b := (P : Int)) (by (clear h0; omega))
  by_cases hk : k < 0
  · rw [if_pos hk]; split <;> omega
  · rw [if_neg hk]; split <;> omega
theorem rests_lt {P : Nat} (hP : 0 < P) {Q : Int} (hQ : Q = P) (l : List Int) : ∀ d ∈ List.map (fun k' => if (if k' < 0 then -k' else k') < Q then k' else k'.fmod Q) l, d.natAbs < P := by
  intro d hd
  obtain ⟨k, _, rfl⟩ := List.mem_map.mp hd
  exact rest_lt hP hQ k
theorem wts_le (l : List Int) : ∀ d ∈ List.map (fun k' => Int.fmod k' 17 - 8) l, d.natAbs ≤ 8 := by
  intro d hd
  obtain ⟨k, _, rfl⟩ := List.mem_map.mp hd
  have h0 := Int.fmod_nonneg_of_pos k (b := 17) (by decide)
  have h1 := Int.fmod_lt_of_pos k (b := 17) (by decide)
  (first | lia | omega)
theorem sum_le8 {l : List Int} (h : ∀ d ∈ l, d.natAbs ≤ 8) : l.sum.natAbs ≤ 8 * l.length := by
  induction l with
  | nil => simp
  | cons a l ih =>
    have h1 := h a List.mem_cons_self
    have h2 := ih fun d hd => h d (List.mem_cons_of_mem _ hd)
    rw [List.sum_cons, List.length_cons]
    omega
theorem ints_mem {vs : List Value} {ns : List Int} (h : IntsAre vs ns) : ∀ v ∈ vs, ∃ n t, v = .int n t ∧ n ∈ ns := by
  induction h with
  | nil => intro v hv; cases hv
  | cons n t _ ih =>
    intro v hv
    rcases List.mem_cons.mp hv with rfl | hv
    · exact ⟨n, t, rfl, List.mem_cons_self⟩
    · obtain ⟨m, u, e, hm⟩ := ih v hv
      exact ⟨m, u, e, List.mem_cons_of_mem _ hm⟩
theorem tab_two {g h : Heap} {L : Addr} {m : Str → Option Value} (F : Fr g L h m) (h58 : g.get? 58 = none) (hT : TabN h) :
    ∃ p1 o1 p2 o2, News g L h [(p1, o1), (p2, o2)] ∧ ∀ h', (∀ b o, g.get? b = some o → h'.get? b = some o) → (∀ q ∈ [(p1, o1), (p2, o2)], h'.get? q.1 = some q.2) → TabN h' := by
  have offL : ∀ b o v, h.get? b = some o → o.data = .fields v → b ≠ L := fun b o v e d q => by
    obtain ⟨oL, es, ep, hoL, hdL, _⟩ := F.ns
    rw [q, hoL] at e; cases e; rw [hdL] at d; cases d
  obtain ⟨ps, hp58, hps⟩ := hT
  have n58 := offL _ _ _ hp58 rfl
  rcases hps with rfl | ⟨c', oc, vs, t, rfl, hoc, hdc, hvc⟩
  · refine ⟨58, tabObj #[], 58, tabObj #[], fun q hq => ?_, fun h' _ k => ⟨_, k _ List.mem_cons_self, .inl rfl⟩⟩
    have : q = (58, tabObj #[]) := by simpa using hq
    rw [this]
    exact ⟨hp58, n58, h58⟩
  · cases hc : g.get? c' with
    | none =>
      refine ⟨58, _, c', oc, fun q hq => ?_, fun h' _ k => ⟨_, k _ List.mem_cons_self, .inr ⟨c', oc, vs, t, rfl, k _ (List.mem_cons_of_mem _ List.mem_cons_self), hdc, hvc⟩⟩⟩
      rcases List.mem_cons.mp hq with rfl | hq
      · exact ⟨hp58, n58, h58⟩
      · obtain rfl := List.mem_singleton.mp hq
        exact ⟨hoc, offL _ _ _ hoc hdc, hc⟩
    | some o1 =>
      have := F.keep _ _ hc
      rw [hoc] at this; cases this
      refine ⟨58, tabObj #[rawInt 12, rawInt 12, .ref c'], 58, tabObj #[rawInt 12, rawInt 12, .ref c'], fun q hq => ?_, fun h' kg k => ⟨_, k _ List.mem_cons_self, .inr ⟨c', oc, vs, t, rfl, kg _ _ hc, hdc, hvc⟩⟩⟩
      have : q = (58, tabObj #[rawInt 12, rawInt 12, .ref c']) := by simpa using hq
      rw [this]
      exact ⟨hp58, n58, h58⟩
theorem law8 {w : World} {p : Program} {loose : List Str} {mean : ExcName → Option Value} {mg mb : Str → Option Value} {base : Heap} {s : Shared} {Q E : Value → Shared → Prop}
   (K0 : Below callerA base [] s.heap) (hmb : ∀ b ∈ [58], base.get? b = none ∧ b ∉ frs []) (X : (hd2.heap_39 w.params).In base) (T : Top p loose mean mg mb base)
   (C : CodeHd base 62 58) (hT : TabN s.heap)
   {l : Addr} {vs : List Value} {ns : List Int} (hl : s.heap.IsList l vs.toArray) (hi : IntsAre vs ns) (hlen : ns.length ≤ 63)
   (HP : PlainLaw)
   (ret : ∀ s', (∀ b o, b ≠ 58 → s.heap.get? b = some o → s'.heap.get? b = some o) → TabN s'.heap → GBare s.gens s'.gens → s'.drawn = s.drawn → s'.os = s.os → Q (.bool true) s') :
   wpAny (model PySem.Challenge.rw_kp0013_02.row.prog w) callerA (call (.ref 89) [.ref l]) Q E s := by
  have X0 := X
  revert X; k_fill; intro X
  refine wpAny_call ?_
  refine' enter_plain2 (mods := [58]) (binds := [("script", .ref l)]) K0 hmb X T ?ho ?hcd ?hroom ?hbind ?hloc ?_ ?hcell ?hco ?hgen ?hk
  case ho => k_is
  case hcd => k_is
  case hroom => decide
  case hbind => exact BindsTo.of_eq rfl
  case hloc => intro y hy; simp only [List.mem_cons, List.not_mem_nil, or_false] at hy; rcases hy with rfl; exact rfl
  case hcell => decide
  case hco => exact rfl
  case hgen => exact rfl
  case hk => exact rfl
  intro g L' h₁ F B Xg Tg Kp hmg hkeep hL'
  (try dsimp only)
  refine hide_post fun K0 EE hK0 hE0 => ?_
  have ln : l ≠ 58 := list_not_tab hT hl
  have gl : g.IsList l vs.toArray := hl.at fun o e => Kp _ _ (by simpa using ln) e
  have hT1 : TabN h₁ := tab_mono hT (fun ps e => hkeep _ _ e) fun c oc vs t e d _ => ⟨oc, hkeep _ _ e, d⟩
  have h58L : 58 < L' := by
    obtain ⟨ps, hp, _⟩ := hT
    rw [hL']; exact Heap.lt_size hp
  have hg58 : g.get? 58 = none := hmg 58 (by first | ((repeat (first | exact List.mem_cons_self | apply List.mem_cons_of_mem)); done) | simp)
  obtain ⟨p1, o1, p2, o2, N, htm⟩ := tab_two F hg58 hT1
  (repeat' ((fail_if_success (with_reducible first | show wpAny _ _ (call (Value.ref _) _) _ _ _ | show wpAny _ _ (exec (Stmt.For _ _ _ _ _) _) _ _ _ | show wpAny _ _ (execs [_, _, _, _, _, _, _, _] _) _ _ _)); first | (exfalso; omega) | (k_unfold; (try dsimp only)) | walk1 | (dsimp only; walk1) | (leave1; walk_say "STEP leave1"; try dsimp only)))
  rename Fr _ _ _ _ => F
  rename News _ _ _ _ => N
  rename_i a1 v1 x3 i1 x5 x6 x7 x8 x9 x10 x11 v2 i2 n2 a2 x16 x17 x18 x19 x20 x21 x22 v3 i3 n3 a3 x27 x28 x29 a9 v9 x32 x33 x34 x35 x36 x37 x38 x39 x40 x41 x42 x43 i4 n4 a4 x47 x48 x49
  have d2 := rests_lt (P := 2 ^ 40) (by decide) (Q := 2 ^ Int.toNat 40) rfl (List.take 31 ns)
  have d3 := rests_lt (P := 2 ^ 900) (Nat.two_pow_pos 900) (Q := 2 ^ Int.toNat 900) (by rw [pow_cast]; rfl) (List.take 31 ns)
  have d4 := wts_le (List.take 31 ns).reverse
  have e2 := List.length_map (as := List.take 31 ns) (fun k' : Int => if (if k' < 0 then -k' else k') < 2 ^ Int.toNat 40 then k' else k'.fmod (2 ^ Int.toNat 40))
  have e3 := List.length_map (as := List.take 31 ns) (fun k' : Int => if (if k' < 0 then -k' else k') < 2 ^ Int.toNat 900 then k' else k'.fmod (2 ^ Int.toNat 900))
  have e4 := (List.length_map (as := (List.take 31 ns).reverse) (fun k' : Int => k'.fmod 17 - 8)).trans (List.length_reverse ..)
  have e1 : (List.take 31 ns).length ≤ 31 := by rw [List.length_take]; exact Nat.min_le_left ..
  generalize hsc : List.take 31 ns = sc at *
  generalize List.map (fun k' : Int => if (if k' < 0 then -k' else k') < 2 ^ Int.toNat 40 then k' else k'.fmod (2 ^ Int.toNat 40)) sc = dat at *
  generalize List.map (fun k' : Int => if (if k' < 0 then -k' else k') < 2 ^ Int.toNat 900 then k' else k'.fmod (2 ^ Int.toNat 900)) sc = gr at *
  generalize List.map (fun k' : Int => k'.fmod 17 - 8) sc.reverse = wt at *
  have b2 : ∀ v ∈ v2, ∃ n t, v = .int n t ∧ n.natAbs < 2 ^ 40 := fun v hv => by obtain ⟨n, t, e, hn⟩ := ints_mem i2 v hv; exact ⟨n, t, e, d2 n hn⟩
  have b3 : ∀ v ∈ v3, ∃ n t, v = .int n t ∧ n.natAbs < 2 ^ 900 := fun v hv => by obtain ⟨n, t, e, hn⟩ := ints_mem i3 v hv; exact ⟨n, t, e, d3 n hn⟩
  have b4 : ∀ v ∈ ys, ∃ n t, v = .int n t ∧ n.natAbs < 2 ^ 4 := fun v hv => by obtain ⟨n, t, e, hn⟩ := ints_mem i4 v hv; exact ⟨n, t, e, Nat.lt_of_le_of_lt (d4 n hn) (by decide)⟩
  have bu : wt.sum.natAbs < 2 ^ 20 := by have := sum_le8 d4; clear d3; (clear b4 b3 b2 d4 n4 i4 e3 n3 i3 e2 d2 n2 i2 x42 x41 x40 x39 x36 x35 x21 x20 x10 x6 x5 i1 hsc x49 N F x38 x37 x34 x33 x29 x19 x18 x9 x7 htm hg58 h58L hT1 gl ln hE0 hK0 hL' hkeep hmg Kp Tg Xg B X X0 ret HP hlen hi hl hT C T hmb; grind)
  refine law7 rfl rfl B X0 T C (hmb 58 (by first | ((repeat (first | exact List.mem_cons_self | apply List.mem_cons_of_mem)); done) | simp)).1 (Nat.ne_of_lt h58L) hg58 F rfl rfl rfl rfl (newsSub (l := ((a4, W.listOf ys.toArray ys.length) :: (a3, W.listOf v3.toArray v3.length) :: (a2, W.listOf v2.toArray v2.length) :: (a1, W.listOf v1.toArray 0) :: [(p1, o1), (p2, o2)])) N (fun q hq => ?_)) i1 i2 i3 i4 e1 e2 e3 e4 b2 b3 b4 bu htm (HP w v2 v3 ys sc dat gr wt i2 i3 i4 e1 e2 e3 e4 d2 d3 d4) (fun s' g1 m1 TT F1 hT1 gb d1 os1 => ?_)
  · simp only [List.mem_cons, List.not_mem_nil, or_false] at hq
    rcases hq with rfl | rfl | rfl | rfl | rfl | rfl
    · exact List.mem_cons_self
    · exact List.mem_cons_of_mem _ (List.mem_cons_of_mem _ List.mem_cons_self)
    · exact List.mem_cons_of_mem _ (List.mem_cons_of_mem _ (List.mem_cons_of_mem _ List.mem_cons_self))
    · exact List.mem_cons_of_mem _ (List.mem_cons_of_mem _ (List.mem_cons_of_mem _ (List.mem_cons_of_mem _ List.mem_cons_self)))
    · exact List.mem_cons_of_mem _ (List.mem_cons_of_mem _ (List.mem_cons_of_mem _ (List.mem_cons_of_mem _ (List.mem_cons_of_mem _ List.mem_cons_self))))
    · exact List.mem_cons_of_mem _ (List.mem_cons_of_mem _ (List.mem_cons_of_mem _ (List.mem_cons_of_mem _ (List.mem_cons_of_mem _ (List.mem_cons_of_mem _ List.mem_cons_self)))))
  · exact hK0 _ _ (ret s' (fun b o hb e => F1.keep _ _ ((turn_chg (outer := []) (mods := []) TT).keep b o (Kp b o (by simpa using hb) e) (by first | ((repeat (first | exact List.mem_cons_self | apply List.mem_cons_of_mem)); done) | simp) (by first | ((repeat (first | exact List.mem_cons_self | apply List.mem_cons_of_mem)); done) | simp))) hT1 gb d1 os1)
end Mine
end
theorem Mine.anewHead2 : True := by
  w_top off
  exact trivial
section
open PySem PySem.W PyProof.Rows PySem.Calls
set_option Elab.async false
set_option maxRecDepth 100000
set_option maxHeartbeats 8000000
set_option linter.unusedVariables false
namespace Mine
/-- the end of the law, with the table of fmean grown -/
theorem law_end {c : ClaimW} {cl : Str → Option Addr} {mean : ExcName → Option Value} {args : List WData} {s₁ s' : Shared} (hr : ∀ cls, c.raises args cls = false) (hp : c.post args (.bool true) args = true) (hg : s₁.gens = #[])
    (C : CodeHd s₁.heap 62 58) (h58 : s₁.heap.get? 58 = some (tabObj #[])) (k : ∀ b o, b ≠ 58 → s₁.heap.get? b = some o → s'.heap.get? b = some o) (hT : TabN s'.heap) (gb : GBare s₁.gens s'.gens) (hos : s'.os = s₁.os) :
    GoodWG c cl mean args s₁ (.ok (.ret (.bool true))) s' := by
  obtain ⟨ps, hTt, _⟩ := hT
  refine ⟨.inl ⟨_, _, [], rfl, hr, ReadsW.bool true, hp, fun _ => ⟨List.nodup_nil, fun _ hm => (nomatch hm)⟩⟩, ⟨fun b o e => ?_, fun b o e => ?_⟩, hos, gb (AllBare.of_eq hg)⟩
  · by_cases hb : b = 58
    · subst hb
      rw [h58] at e
      cases e
      exact .inr (.inl ⟨(C.tab h58).isCodeTable, rfl, #[], ps, rfl, by rw [Array.empty_append]; exact hTt⟩)
    · exact .inl (k b o hb e)
  · by_cases hb : b = 58
    · subst hb; exact ⟨_, hTt⟩
    · exact ⟨o, k b o hb e⟩
theorem cw (HP : PlainLaw) : PySem.Challenge.rw_kp0013_02.Holds := hd2 (by
  k_fill
  intro w s₀ s₁ mg mb G Y fa o pm cd doc dV kV ho hd hcd hD hmg hg args vals as hpre hlay hrd hwl hlo
  have KX := km_in_of Y
  have X := (Ground.X G).1
  have V := (Ground.X G).2
  refine Ground.open G ?_
  intro T B D TE TW
  have hmg' : mg "law" = some (.ref fa) := hmg
  have hfa : fa = 89 := by
    have e := mg_of KX T.g (n := "law") (v := .ref 89) (by kernel_rfl)
    rw [hmg'] at e
    cases e
    rfl
  subst hfa
  have hTab : CodeHd s₁.heap 62 58 ∧ s₁.heap.get? 58 = some (tabObj #[]) := ⟨codeHd_of_K (c := 62) (P := 58) KX (by kernel_rfl), km_tabs_of Y 58 (by k_mem)⟩
  have hT : TabsAt [(62, 58)] s₁.heap := fun q hq => by rw [List.mem_singleton.mp hq]; exact hTab
  have XG := ghost_K hT KX (by kernel_rfl)
  have TG := ghost_top hT T
  have CG : CodeHd (ghostOf s₁.heap [(62, 58)]) 62 58 := (ghost_code hT).1
  wrow_args hpre hlay hrd hwl hlo
  all_goals (first | refine callC_kw ?_ | skip)
  rename IntsAre _ _ => hI
  rename_i hlen hc
  refine law8 ⟨rfl, fun b o e => of_hideAll _ e, trivial⟩ ?hmb XG TG CG ⟨#[], hTab.2, .inl rfl⟩ (by assumption) hI (by omega) HP ?ret
  case hmb =>
    intro b hb
    rw [List.mem_singleton.mp hb]
    exact ⟨hideAll_none _ (by simp), by simp [frs]⟩
  case ret =>
    intro s' k9 hT9 gb9 dr9 os9
    refine law_end (fun _ => rfl) ?post hg hTab.1 hTab.2 k9 hT9 gb9 os9
    case post => first | rfl | wrow_post | decide | kernel_rfl | (simp; done))
end Mine
end
theorem Mine.anewV6 : True := by
  w_top off
  exact trivial
section
open PySem PySem.W PyProof.Rows
set_option Elab.async false
set_option maxRecDepth 100000
set_option exponentiation.threshold 6000
set_option linter.unusedVariables false
namespace Mine
theorem plainLaw : PlainLaw := by
  intro w v2 v3 v4 sc dat gr wt i2 i3 i4 len l2 l3 l4 d2 d3 d4
  have m0 : 0 ≤ sc.sum.fmod 1000 := Int.fmod_nonneg_of_pos _ (by decide)
  have m1 : sc.sum.fmod 1000 < 1000 := Int.fmod_lt_of_pos _ (by decide)
  have n0 : 0 ≤ ((sc.length : Nat) : Int).fmod 8 := Int.fmod_nonneg_of_pos _ (by decide)
  have n1 : ((sc.length : Nat) : Int).fmod 8 < 8 := Int.fmod_lt_of_pos _ (by decide)
  have hb : ∃ e : Nat, e < 1000 ∧ (2 : Int) ^ (sc.sum.fmod 1000).toNat = 2 ^ e := ⟨_, by omega, rfl⟩
  refine ⟨?_, ?_, ?_, ?_, ?_, ?_, ?_, ?_, ?_, ?_, ?_, ?_⟩
  · rintro vs ws o u ⟨rfl, rfl, rfl, rfl⟩
    exact row1 i2 i4 len l2 l4 d2 d4
  · rintro vs ws o u ⟨⟨t1, t2, rfl⟩, ⟨t3, t4, rfl⟩, rfl, rfl⟩
    exact row2 i2 i4 len l2 l4 d2 d4 hb
  · rintro vs ws o u ⟨hp, rfl, rfl, rfl⟩
    exact row3 i2 i4 len l2 l4 d2 d4 hp
  · rintro vs ws o u ⟨rfl, hp, rfl, rfl⟩
    exact row4 i2 i4 len l2 l4 d2 d4 hp
  · rintro vs ws o u ⟨⟨t1, rfl⟩, ⟨t2, rfl⟩, rfl, rfl⟩
    exact row5 i3 i4 len l3 l4 d3 d4 (by omega)
  · rintro vs ws o u ⟨⟨t1, rfl⟩, ⟨t2, rfl⟩, rfl, rfl⟩
    exact row6 i2 i4 len l2 l4 d2 d4
  · rintro vs ws o u ⟨rfl, ⟨t2, rfl⟩, rfl, rfl⟩
    exact row7 i2 i4 len l2 l4 d2 d4
  · rintro vs ws o u ⟨⟨t2, rfl⟩, rfl, rfl, rfl⟩
    exact row8 i2 i4 len l2 l4 d2 d4
  · rintro vs o u ⟨rfl, rfl, rfl⟩
    exact row9 i2 len l2 d2
  · rintro vs o u ⟨⟨x1, t1, x2, t2, rfl, h1, h2⟩, rfl, rfl⟩
    exact row10 i2 len l2 d2 hb h1 h2
  · intro v5 hF K tk vs o u hK e1 e2 e3
    subst e1 e2 e3
    have hb5 : Builtin.Int.intBits ((sc.length : Nat) : Int) ≤ 5 := intBits_le_iff.mpr (by simp; omega)
    exact row11 len hF hb5 (by rw [← pow_cast] at hK; omega)
  · rintro f1 f2 k1 k2 vs ws o u h1 h2 ⟨⟨t1, t2, t3, t4, rfl⟩, ⟨ys, f3, f4, k3, k4, rfl, hp, rfl, rfl⟩, rfl, rfl⟩
    exact row12 i2 i4 len l2 l4 d2 d4 h1 h2 hp
theorem cwHolds : PySem.Challenge.rw_kp0013_02.Holds := cw plainLaw
end Mine
end
set_option Elab.async false
theorem PySem.Challenge.cw_kp0013_02_holds : PySem.Challenge.rw_kp0013_02.Holds := by
  exact Mine.cwHolds
