import PyProof.Rows.All
import Wide.All
import OpenK.AllK
import Wide.FinOn
import PyProof.IsiH_set
import Lean
import PySem.Challenge.RW_ij0006_01
set_option Elab.async false

section PartHD
open PySem PySem.W PyProof.Rows PySem.Spec PySem.Calls
set_option maxRecDepth 100000
set_option maxHeartbeats 8000000
namespace Mine
open_top hd for PySem.Challenge.rw_ij0006_01
end Mine
end PartHD

section PartCB
open PySem PySem.W PyProof.Rows PySem.Spec PySem.Calls
set_option linter.unusedVariables false
set_option maxRecDepth 100000
set_option maxHeartbeats 4000000
namespace Mine

/-- what stands around a call of ours -/
abbrev CA (d u : Nat) (outer : List Env) : Around := { handled := none, depth := d, frames := some outer, guards := none, units := u }

/-- the shared part as a contract leaves it -/
def Ends (s : Shared) (P : Heap → Value → Prop) (R : Result → Shared → Prop) : Prop :=
  ∀ (v : Value) (h' : Heap) (tk' : Nat), s.heap.StaysIn h' → P h' v → R (.ok (.ret v)) { s with heap := h', toks := tk' }

abbrev prg : Program := PySem.Challenge.rw_ij0006_01.row.prog

structure Ctx9 (w : World) (base : Heap) (outer : List Env) (p : Program) (loose : List Str) (mean : ExcName → Option Value) (mg mb : Str → Option Value) (A : Around) (h : Heap) : Prop where
  B : Below A base outer h
  X : (hd.heap_39 w.params).In h
  T : Top p loose mean mg mb h

/-- a contract: the def at f, called on args, where H holds of the heap, comes back with a value such that P holds; nothing that stood is changed -/
def Ctr (d u : Nat) (f : Addr) (args : List Value) (H : World → Shared → Prop) (P : World → Heap → Heap → Value → Prop) : Prop :=
  ∀ (w : World) (base : Heap) (outer : List Env) (p : Program) (loose : List Str) (mean : ExcName → Option Value) (mg mb : Str → Option Value) (s : Shared) (R : Result → Shared → Prop),
    Ctx9 w base outer p loose mean mg mb (CA d u outer) s.heap → H w s → Ends s (P w s.heap) R →
    codeAny (model prg w) (CA d u outer) (.call (.ref f) ⟨args, []⟩) R s

theorem below_le {Γ : PySem.Ctx} {d u d' u' : Nat} {outer : List Env} {gd : Option (List Code)} (h : Γ.Below { handled := none, depth := d, frames := some outer, guards := gd, units := u }) (hd : d ≤ d') (hu : u ≤ u') : Γ.Below (CA d' u' outer) :=
  And.intro h.1 (And.intro (Nat.le_trans h.2.1 hd) (And.intro h.2.2.1 (And.intro (fun (g : List Code) (hg : (none : Option (List Code)) = some g) => absurd hg (fun e => nomatch e)) (Nat.le_trans h.2.2.2.2 hu))))

theorem codeAny_le {M : Model} {c : Code} {R : Result → Shared → Prop} {s : Shared} {d u d' u' : Nat} {outer : List Env} {gd : Option (List Code)} (h : codeAny M (CA d' u' outer) c R s) (hd : d ≤ d') (hu : u ≤ u') :
    codeAny M { handled := none, depth := d, frames := some outer, guards := gd, units := u } c R s :=
  fun Γ p hc hb => h Γ p hc (below_le hb hd hu)

section
variable {prog : Program} {w : World} {d u : Nat} {s : Shared} {base : Heap} {outer : List Env} {K : Frag} {p : Program} {loose : List Str} {mean : ExcName → Option Value} {mg mb : Str → Option Value}
  {R : Result → Shared → Prop} {name qual : Str} {params : Arguments} {body : List Stmt} {scope : Scope} {dV kV doc pm cdv ct oc : Value} {an od : Option Addr} {osl : Array (Option Value)} {f : Addr} {args : Args} {binds : List (Str × Value)}

def CEnd (R : Result → Shared → Prop) (v : Value) (s : Shared) : Prop := R (.ok (.ret v)) s

theorem enter (B : Below (CA d u outer) base outer s.heap) (X : K.In s.heap) (T : Top p loose mean mg mb s.heap)
    (ho : K.lookup f = some ⟨oc, od, .func (fnOf name qual params body scope dV kV doc pm an cdv ct), osl⟩) (hcd : codeIn K cdv qual = true) (hroom : d < recursionLimit)
    (hbind : BindsTo s (fnOf name qual params body scope dV kV doc pm an cdv ct) args binds) (hloc : ∀ y ∈ binds, scope.names.lookup y.1 = some .local)
    (h : ∀ L' h₁, L' = s.heap.objs.size → Fr s.heap L' h₁ (fun y => binds.reverse.lookup y) → News s.heap L' h₁ [] →
      wpAny (model prog w) ((CA d u outer).deeper (envOf qual scope L' f cdv)) (execs body (envOf qual scope L' f cdv))
        (fun fl s' => CEnd R (match fl with | .ret v => v | _ => .none) s')
        (fun e s' => wpAny (model prog w) ((CA d u outer).deeper (envOf qual scope L' f cdv)) (leaving (envOf qual scope L' f cdv) e) (fun _ s'' => R (.error e) s'') (fun e' s'' => R (.error e') s'') s')
        { s with heap := h₁, toks := s.toks + binds.length })
    (hco : scope.isCoroutine = false) (hgen : scope.isGenerator = false) (hk : scope.kind = .function)
    (hcell : ∀ x ∈ scope.names, x.2 ≠ .cell) : codeAny (model prog w) (CA d u outer) (.call (.ref f) args) R s :=
  codeAny_call_def (fd := fnOf name qual params body scope dV kV doc pm an cdv ct) (body := body) (binds := binds) hroom (X _ _ ho) rfl T.nolimit (codeRec_of X hcd) rfl hbind hcell hloc
    (fun h₁ hns hk₁ => h _ h₁ rfl ⟨hns, hk₁, Nat.le_refl _⟩ News.nil) hco hgen hk

/-- the walk halts here -/
def Stop (P : Prop) : Prop := P
theorem Stop.out {P : Prop} (h : Stop P) : P := h
theorem Stop.on {P : Prop} (h : P) : Stop P := h
theorem gen_toks {α : Type} {M : Model} {A : Around} {t : Sem α} {Q : α → Shared → Prop} {E : Value → Shared → Prop} {hp : Heap} {g : Array GenState} {d : Drawn} {n : Nat} {os : OsState} (hn : 1 ≤ n)
    (h : ∀ tk, 1 ≤ tk → wpAny M A t Q E ⟨hp, g, d, tk, os⟩) : wpAny M A t Q E ⟨hp, g, d, n, os⟩ := h n hn
theorem with_toks {α : Type} {M : Model} {A : Around} {t : Sem α} {Q : α → Shared → Prop} {E : Value → Shared → Prop} {s : Shared}
    (h : wpAny M A t (fun a s' => (1 ≤ s.toks → 1 ≤ s'.toks) → Q a s') E s) : wpAny M A t Q E s := by
  by_cases ht : 1 ≤ s.toks
  · exact wpAny_mono (wpAny_toks_of ht h) (fun v s' hv => hv.2 fun _ => hv.1) (fun e s' he => he.2)
  · exact wpAny_mono h (fun v s' hv => hv fun q => absurd q ht) (fun e s' he => he)
/-- a way's end, from the frame at hand -/
theorem cend {P : Heap → Value → Prop} {v : Value} {s : Shared} {h' : Heap} {tk' : Nat} {L : Addr} {m : Str → Option Value} (hE : Ends s P R) (F : Fr s.heap L h' m) (hP : P h' v) : CEnd R v { s with heap := h', toks := tk' } :=
  hE v h' tk' F.keep hP
end
end Mine
end PartCB

section PartL1
open PySem PySem.W PyProof.Rows PySem.Spec PySem.Calls
set_option linter.unusedVariables false
set_option maxRecDepth 100000
set_option maxHeartbeats 4000000
namespace Mine
local macro_rules | `(tactic| ktr_enter) => `(tactic| (
  intro w base outer p loose mean mg mb s R C hH hE;
  obtain ⟨B, X, T⟩ := C;
  refine' enter B X T ?k6 ?k7 ?k8 ?k9 ?kB ?_ ?c2 ?c3 ?c4 ?c5;
  (case k6 => k_is); (case k7 => k_is); (case k8 => decide); (case k9 => exact BindsTo.of_eq rfl);
  (case kB => exact locs rfl); (case c2 => exact rfl); (case c3 => exact rfl); (case c4 => exact rfl); (case c5 => decide);
  intro L' h₁ hL' F' N'; (try dsimp only)))
theorem filled : (PySem.Challenge.rw_ij0006_01, hd.heap_39) = (PySem.Challenge.rw_ij0006_01, hd.heap_39) := by k_fill; rfl

/-- a tuple of three ints -/
def IsTupI (h : Heap) (v : Value) (x : Int × Int × Int) : Prop := ∃ a n u1 u2 u3, v = .ref a ∧ h.get? a = some { cls := .type "tuple", data := .seq #[.int x.1 u1, .int x.2.1 u2, .int x.2.2 u3] n }
/-- a tuple of three floats -/
def IsTupF (h : Heap) (v : Value) (x : UInt64 × UInt64 × UInt64) : Prop := ∃ a n u1 u2 u3, v = .ref a ∧ h.get? a = some { cls := .type "tuple", data := .seq #[.float x.1 u1, .float x.2.1 u2, .float x.2.2 u3] n }
theorem tupI {h₀ h : Heap} {L : Addr} {news : List (Addr × Obj)} {a : Addr} {n : Nat} {x y z : Int} {u1 u2 u3 : Tok} {r : Int × Int × Int} (N : News h₀ L h ((a, { cls := .type "tuple", data := .seq #[.int x u1, .int y u2, .int z u3] n }) :: news)) (e : r = (x, y, z)) : IsTupI h (.ref a) r := by
  subst e; exact ⟨a, n, u1, u2, u3, rfl, (N _ (.head _)).1⟩
theorem tupF {h₀ h : Heap} {L : Addr} {news : List (Addr × Obj)} {a : Addr} {n : Nat} {x y z : UInt64} {u1 u2 u3 : Tok} {r : UInt64 × UInt64 × UInt64} (N : News h₀ L h ((a, { cls := .type "tuple", data := .seq #[.float x u1, .float y u2, .float z u3] n }) :: news)) (e : r = (x, y, z)) : IsTupF h (.ref a) r := by
  subst e; exact ⟨a, n, u1, u2, u3, rfl, (N _ (.head _)).1⟩

/-- a new tuple of three ints -/
def IsTupN (h h' : Heap) (v : Value) (x : Int × Int × Int) : Prop := ∃ a n u1 u2 u3, v = .ref a ∧ h'.get? a = some { cls := .type "tuple", data := .seq #[.int x.1 u1, .int x.2.1 u2, .int x.2.2 u3] n } ∧ h.get? a = none
theorem tupN {h₀ h : Heap} {L : Addr} {news : List (Addr × Obj)} {a : Addr} {n : Nat} {x y z : Int} {u1 u2 u3 : Tok} {r : Int × Int × Int} (N : News h₀ L h ((a, { cls := .type "tuple", data := .seq #[.int x u1, .int y u2, .int z u3] n }) :: news)) (e : r = (x, y, z)) : IsTupN h₀ h (.ref a) r := by
  subst e; exact ⟨a, n, u1, u2, u3, rfl, (N _ (.head _)).1, (N _ (.head _)).2.2⟩
def nameOf3 (i j k : Int) : Int × Int × Int := if j * k = 0 then (0, 0, k) else (i.fmod 96, j, k)

theorem name_ctr (i j k : Int) (t1 t2 t3 : Tok) (hj : 0 ≤ j ∧ j ≤ 8) (hk : 0 ≤ k ∧ k ≤ 4) : Ctr 500 300 86 [.int i t1, .int j t2, .int k t3] (fun _ _ => True)
    (fun _ h h' v => IsTupN h h' v (nameOf3 i j k)) := by
  ktr_enter
  k_fold
  k_steps
  all_goals ((try k_unfold); (try dsimp only); refine cend (by assumption) (by k_asm) (tupN (by k_asm) ?_); simp only [nameOf3]; first | rw [if_pos (by assumption)] | rw [if_neg (by assumption)] | rw [if_neg (Int.mul_ne_zero (by assumption) (by assumption))])

theorem drawn_ctr (x : Int) (t1 : Tok) : Ctr 500 300 79 [.int x t1] (fun _ _ => True)
    (fun _ h h' v => IsTupN h h' v (x.fmod 96, 8 - (x.fdiv 96).fmod 9, 4 - x.fdiv 864)) := by
  ktr_enter
  k_fold
  k_steps
  all_goals ((try k_unfold); (try dsimp only); exact cend (by assumption) (by k_asm) (tupN (by k_asm) rfl))

/-- 6.0, 1.0, 2.0, 4.0 -/
abbrev six : UInt64 := 4618441417868443648
abbrev one : UInt64 := 4607182418800017408
abbrev two : UInt64 := 4611686018427387904
abbrev four : UInt64 := 4616189618054758400

def hsvI (h : UInt64) : Int := Flt.toInt Float64.truncOf (Float64.mul h six)
def hsvF (h : UInt64) : UInt64 := Float64.sub (Float64.mul h six) (Float64.ofInt (hsvI h))
def hsvP (s v : UInt64) : UInt64 := Float64.mul v (Float64.sub one s)
def hsvQ (f s v : UInt64) : UInt64 := Float64.mul v (Float64.sub one (Float64.mul s f))
def hsvT (f s v : UInt64) : UInt64 := Float64.mul v (Float64.sub one (Float64.mul s (Float64.sub one f)))
def hsvR (h s v : UInt64) : UInt64 × UInt64 × UInt64 :=
  if (Float64.cmp s 0 == some Ordering.eq) = true then (v, v, v)
  else if (hsvI h).fmod 6 = 0 then (v, hsvT (hsvF h) s v, hsvP s v)
  else if (hsvI h).fmod 6 = 1 then (hsvQ (hsvF h) s v, v, hsvP s v)
  else if (hsvI h).fmod 6 = 2 then (hsvP s v, v, hsvT (hsvF h) s v)
  else if (hsvI h).fmod 6 = 3 then (hsvP s v, hsvQ (hsvF h) s v, v)
  else if (hsvI h).fmod 6 = 4 then (hsvT (hsvF h) s v, hsvP s v, v)
  else (v, hsvP s v, hsvQ (hsvF h) s v)

theorem fin_nan {x : UInt64} (h : Float64.isFinite x = true) : ¬ Float64.isNaN x = true := by
  unfold Float64.isFinite at h; unfold Float64.isNaN
  cases hd : Float64.decode x <;> simp [hd] at h ⊢
theorem fin_inf {x : UInt64} (h : Float64.isFinite x = true) : ¬ Float64.isInf x = true := by
  unfold Float64.isFinite at h; unfold Float64.isInf
  cases hd : Float64.decode x <;> simp [hd] at h ⊢

theorem hsv_ctr (x y z : UInt64) (t1 t2 t3 : Tok) (hf : Float64.isFinite (Float64.mul x six) = true) (hi : 0 ≤ hsvI x ∧ hsvI x < 1000) : Ctr 500 300 28 [.float x t1, .float y t2, .float z t3] (fun _ _ => True)
    (fun _ _ h' v => IsTupF h' v (hsvR x y z)) := by
  unfold hsvI at hi
  have hfn := fin_nan hf
  have hfi := fin_inf hf
  have hm0 : 0 ≤ (Flt.toInt Float64.truncOf (Float64.mul x 4618441417868443648)).fmod 6 := Int.fmod_nonneg_of_pos _ (by decide : (0 : Int) < 6)
  have hm6 : (Flt.toInt Float64.truncOf (Float64.mul x 4618441417868443648)).fmod 6 < 6 := Int.fmod_lt_of_pos _ (by decide : (0 : Int) < 6)
  have hi0 : 0 ≤ Flt.toInt Float64.truncOf (Float64.mul x 4618441417868443648) := hi.1
  have hi1 : Flt.toInt Float64.truncOf (Float64.mul x 4618441417868443648) < 1000 := hi.2
  ktr_enter
  k_fold
  k_steps
  all_goals first
    | (exfalso; contradiction)
    | (exfalso; omega)
    | ((try k_unfold); (try dsimp only); refine cend (by assumption) (by k_asm) (tupF (by k_asm) ?_); simp only [hsvR, hsvI, hsvF, hsvP, hsvQ, hsvT, *]; done)
    | ((try k_unfold); (try dsimp only); refine cend (by assumption) (by k_asm) (tupF (by k_asm) ?_); simp [hsvR, hsvI, hsvF, hsvP, hsvQ, hsvT, *]; done)

/-- the greatest and the least of three floats, as max and min go -/
def fMax (a b c : UInt64) : UInt64 := if (Float64.cmp a b == some .lt) = true then (if (Float64.cmp b c == some .lt) = true then c else b) else (if (Float64.cmp a c == some .lt) = true then c else a)
def fMin (a b c : UInt64) : UInt64 := if (Float64.cmp b a == some .lt) = true then (if (Float64.cmp c b == some .lt) = true then c else b) else (if (Float64.cmp c a == some .lt) = true then c else a)

section
variable {prog : Program} {w : World} {A : Around} {E : Value → Shared → Prop} {s : Shared} {Q : Value → Shared → Prop} {a b c : UInt64} {t u x : Tok} {h₀ : Heap} {L : Addr} {m : Str → Option Value} {news : List (Addr × Obj)}
theorem max3 (hh : A.handled = none) (F : Fr h₀ L s.heap m) (N : News h₀ L s.heap news)
    (h : ∀ h' tk v, (v = t ∨ v = u ∨ v = x) → (1 ≤ s.toks → 1 ≤ tk) → Fr h₀ L h' m → News h₀ L h' news → Q (.float (fMax a b c) v) { s with heap := h', toks := tk }) :
    wpAny (model prog w) A (call (.builtin "max") [.float a t, .float b u, .float c x]) Q E s := by
  have hT : (s.heap.push { cls := .type "tuple", data := .seq #[.float a t, .float b u, .float c x] }).IsTuple s.heap.objs.size #[.float a t, .float b u, .float c x] := ⟨_, Heap.get?_push_size _ rfl, rfl, 0, rfl⟩
  refine with_toks (call_max_three (wpAny_pyIter_tuple hT ?_))
  have hsz : (s.heap.push { cls := .type "tuple", data := .seq #[.float a t, .float b u, .float c x] }).objs.size = s.heap.objs.size + 1 := Heap.size_push ..
  refine ⟨_, [_, s.heap.objs.size], [_], _, _, _, _, rfl, Walks.tuple (A := A.in1) hh _ s.heap.objs.size (by rw [hsz]; exact Nat.ne_of_lt (Nat.lt_succ_self _)) #[.float a t, .float b u, .float c x],
    ⟨⟨_, Heap.get?_push_size _ rfl, rfl, rfl⟩, hT.push _⟩, fun d hd => ?_, by simp, Flt.cmpOf_gt #[.float a t, .float b u, .float c x] (by simp [Flt.NumV.float]), fun v h' tk hP hk htk => ?_⟩
  · show d < ((s.heap.push _).push _).objs.size
    rw [Heap.size_push, hsz]
    rcases List.mem_cons.mp hd with rfl | hd
    · rw [hsz]; exact Nat.lt_succ_self _
    · rcases List.mem_cons.mp hd with rfl | hd
      · exact Nat.lt_succ_of_lt (Nat.lt_succ_self _)
      · cases hd
  · have hold : ∀ d o, s.heap.get? d = some o → h'.get? d = some o := fun d o e => by
      refine hk d o (fun hm => ?_) (Heap.get?_push_of_some _ (Heap.get?_push_of_some _ e))
      rcases List.mem_cons.mp hm with e1 | hm
      · have := Heap.lt_size e; rw [e1, hsz] at this; exact Nat.lt_irrefl _ (Nat.lt_of_succ_lt this)
      · cases hm
    have hv : ∃ u', (u' = t ∨ u' = u ∨ u' = x) ∧ v = .float (fMax a b c) u' := by
      unfold fMax
      cases h1 : (Float64.cmp a b == some .lt) <;> cases h2 : (Float64.cmp b c == some .lt) <;> cases h3 : (Float64.cmp a c == some .lt) <;> simp [argBest, Flt.ltV, h1, h2, h3] at hP <;> exact ⟨_, by simp, hP.symm⟩
    obtain ⟨u', hu', rfl⟩ := hv
    exact h h' tk u' hu' htk (F.grownK hold) (N.grown hold)
theorem min3 (hh : A.handled = none) (F : Fr h₀ L s.heap m) (N : News h₀ L s.heap news)
    (h : ∀ h' tk v, (v = t ∨ v = u ∨ v = x) → (1 ≤ s.toks → 1 ≤ tk) → Fr h₀ L h' m → News h₀ L h' news → Q (.float (fMin a b c) v) { s with heap := h', toks := tk }) :
    wpAny (model prog w) A (call (.builtin "min") [.float a t, .float b u, .float c x]) Q E s := by
  have hT : (s.heap.push { cls := .type "tuple", data := .seq #[.float a t, .float b u, .float c x] }).IsTuple s.heap.objs.size #[.float a t, .float b u, .float c x] := ⟨_, Heap.get?_push_size _ rfl, rfl, 0, rfl⟩
  refine with_toks (call_min_three (wpAny_pyIter_tuple hT ?_))
  have hsz : (s.heap.push { cls := .type "tuple", data := .seq #[.float a t, .float b u, .float c x] }).objs.size = s.heap.objs.size + 1 := Heap.size_push ..
  refine ⟨_, [_, s.heap.objs.size], [_], _, _, _, _, rfl, Walks.tuple (A := A.in1) hh _ s.heap.objs.size (by rw [hsz]; exact Nat.ne_of_lt (Nat.lt_succ_self _)) #[.float a t, .float b u, .float c x],
    ⟨⟨_, Heap.get?_push_size _ rfl, rfl, rfl⟩, hT.push _⟩, fun d hd => ?_, by simp, Flt.cmpOf_lt #[.float a t, .float b u, .float c x] (by simp [Flt.NumV.float]), fun v h' tk hP hk htk => ?_⟩
  · show d < ((s.heap.push _).push _).objs.size
    rw [Heap.size_push, hsz]
    rcases List.mem_cons.mp hd with rfl | hd
    · rw [hsz]; exact Nat.lt_succ_self _
    · rcases List.mem_cons.mp hd with rfl | hd
      · exact Nat.lt_succ_of_lt (Nat.lt_succ_self _)
      · cases hd
  · have hold : ∀ d o, s.heap.get? d = some o → h'.get? d = some o := fun d o e => by
      refine hk d o (fun hm => ?_) (Heap.get?_push_of_some _ (Heap.get?_push_of_some _ e))
      rcases List.mem_cons.mp hm with e1 | hm
      · have := Heap.lt_size e; rw [e1, hsz] at this; exact Nat.lt_irrefl _ (Nat.lt_of_succ_lt this)
      · cases hm
    have hv : ∃ u', (u' = t ∨ u' = u ∨ u' = x) ∧ v = .float (fMin a b c) u' := by
      unfold fMin
      cases h1 : (Float64.cmp b a == some .lt) <;> cases h2 : (Float64.cmp c b == some .lt) <;> cases h3 : (Float64.cmp c a == some .lt) <;> simp [argBest, Flt.ltV, h1, h2, h3] at hP <;> exact ⟨_, by simp, hP.symm⟩
    obtain ⟨u', hu', rfl⟩ := hv
    exact h h' tk u' hu' htk (F.grownK hold) (N.grown hold)
end
end Mine
end PartL1

section PartL2
open PySem PySem.W PyProof.Rows PySem.Spec PySem.Calls
set_option linter.unusedVariables false
set_option maxRecDepth 100000
set_option maxHeartbeats 4000000
namespace Mine
local macro_rules | `(tactic| ktr_enter) => `(tactic| (
  intro w base outer p loose mean mg mb s R C hH hE;
  obtain ⟨B, X, T⟩ := C;
  refine' enter B X T ?k6 ?k7 ?k8 ?k9 ?kB ?_ ?c2 ?c3 ?c4 ?c5;
  (case k6 => k_is); (case k7 => k_is); (case k8 => decide); (case k9 => exact BindsTo.of_eq rfl);
  (case kB => exact locs rfl); (case c2 => exact rfl); (case c3 => exact rfl); (case c4 => exact rfl); (case c5 => decide);
  intro L' h₁ hL' F' N'; (try dsimp only)))
theorem tok_or {v t u x : Nat} (h : v = t ∨ v = u ∨ v = x) (h1 : 1 ≤ t) (h2 : 1 ≤ u) (h3 : 1 ≤ x) : 1 ≤ v := by omega
theorem filled2 : (PySem.Challenge.rw_ij0006_01, hd.heap_39) = (PySem.Challenge.rw_ij0006_01, hd.heap_39) := by k_fill; rfl
local macro_rules | `(tactic| walk_at "call builtin:max") => `(tactic| ((with_reducible show wpAny _ _ (call _ [Value.float _ _, Value.float _ _, Value.float _ _]) _ _ _); (rename News _ _ _ _ => N'); (rename Fr _ _ _ _ => F'); refine max3 rfl F' N' ?_; clear N'; intro _ _ _ hv1 hv2 _ _; (try dsimp only at hv2); (have hv3 := hv2 (by omega)); (have hv4 := tok_or hv1 (by omega) (by omega) (by omega)); clear hv1 hv2))
local macro_rules | `(tactic| walk_at "call builtin:min") => `(tactic| ((with_reducible show wpAny _ _ (call _ [Value.float _ _, Value.float _ _, Value.float _ _]) _ _ _); (rename News _ _ _ _ => N'); (rename Fr _ _ _ _ => F'); refine min3 rfl F' N' ?_; clear N'; intro _ _ _ hv1 hv2 _ _; (try dsimp only at hv2); (have hv3 := hv2 (by omega)); (have hv4 := tok_or hv1 (by omega) (by omega) (by omega)); clear hv1 hv2))

local macro_rules | `(tactic| walk_at "execs cons") => `(tactic| ((try dsimp only); (with_reducible show wpAny _ _ _ _ _ (Shared.mk _ _ _ (_ + _) _)); (refine gen_toks (by omega) ?_); intro tk htk))
/-- a tuple of three floats whose tokens are none of the machine's own -/
def IsTupT (h₀ h : Heap) (v : Value) (x : UInt64 × UInt64 × UInt64) : Prop := ∃ a n u1 u2 u3, v = .ref a ∧ h.get? a = some { cls := .type "tuple", data := .seq #[.float x.1 u1, .float x.2.1 u2, .float x.2.2 u3] n } ∧ 1 ≤ u1 ∧ 1 ≤ u2 ∧ 1 ≤ u3 ∧ h₀.get? a = none
theorem tupT {h₀ h : Heap} {L : Addr} {news : List (Addr × Obj)} {a : Addr} {n : Nat} {x y z : UInt64} {u1 u2 u3 : Nat} {r : UInt64 × UInt64 × UInt64} (N : News h₀ L h ((a, { cls := .type "tuple", data := .seq #[.float x u1, .float y u2, .float z u3] n }) :: news)) (h1 : 1 ≤ u1) (h2 : 1 ≤ u2) (h3 : 1 ≤ u3) (e : r = (x, y, z)) : IsTupT h₀ h (.ref a) r := by
  subst e; exact ⟨a, n, u1, u2, u3, rfl, (N _ (.head _)).1, h1, h2, h3, (N _ (.head _)).2.2⟩
theorem fresh_at {g h : Heap} {L b : Addr} {m : Str → Option Value} (F : Fr g L h m) (f : h.get? b = none) : g.get? b = none := by
  cases q : g.get? b with
  | none => rfl
  | some o => rw [F.keep b o q] at f; cases f
/-- rgb_to_hsv, as it goes where nothing divides by nought -/
def rgbD (x y z c : UInt64) : UInt64 := Float64.div (Float64.sub (fMax x y z) c) (Float64.sub (fMax x y z) (fMin x y z))
def rgbR (x y z : UInt64) : UInt64 × UInt64 × UInt64 :=
  if (Float64.cmp (fMin x y z) (fMax x y z) == some Ordering.eq) = true then (0, 0, fMax x y z)
  else ((Float64.divmod (Float64.div
      (if (Float64.cmp x (fMax x y z) == some Ordering.eq) = true then Float64.sub (rgbD x y z z) (rgbD x y z y)
       else if (Float64.cmp y (fMax x y z) == some Ordering.eq) = true then Float64.sub (Float64.add two (rgbD x y z x)) (rgbD x y z z)
       else Float64.sub (Float64.add four (rgbD x y z y)) (rgbD x y z x)) six) one).2,
    Float64.div (Float64.sub (fMax x y z) (fMin x y z)) (fMax x y z), fMax x y z)

theorem rgb_ctr (x y z : UInt64) (t1 t2 t3 : Nat) (ht : 1 ≤ t1 ∧ 1 ≤ t2 ∧ 1 ≤ t3) (hz : (Float64.cmp (fMin x y z) (fMax x y z) == some Ordering.eq) = false → ¬ Float64.isZero (fMax x y z) = true ∧ ¬ Float64.isZero (Float64.sub (fMax x y z) (fMin x y z)) = true) :
    Ctr 500 300 21 [.float x t1, .float y t2, .float z t3] (fun _ s => 1 ≤ s.toks)
    (fun _ h h' v => IsTupT h h' v (rgbR x y z)) := by
  obtain ⟨ht1, ht2, ht3⟩ := ht
  ktr_enter
  k_fold
  k_steps
  all_goals first
    | (exfalso; have q := hz (by assumption); first | exact q.1 (by assumption) | exact q.2 (by assumption))
    | ((try k_unfold); (try dsimp only); refine cend (by assumption) (by k_asm) (tupT (by k_asm) (by first | omega | (dsimp only; omega)) (by first | omega | (dsimp only; omega)) (by first | omega | (dsimp only; omega)) ?_); simp only [rgbR, rgbD, *]; done)
    | ((try k_unfold); (try dsimp only); refine cend (by assumption) (by k_asm) (tupT (by k_asm) (by first | omega | (dsimp only; omega)) (by first | omega | (dsimp only; omega)) (by first | omega | (dsimp only; omega)) ?_); simp [rgbR, rgbD, *]; done)
    | trace_state

section
variable {w : World} {d u dd uu : Nat} {s : Shared} {base h₀ : Heap} {outer : List Env} {p : Program} {loose : List Str} {mean : ExcName → Option Value} {mg mb : Str → Option Value}
  {f L : Addr} {args : List Value} {H : World → Shared → Prop} {P : World → Heap → Heap → Value → Prop} {env : Env} {m : Str → Option Value} {A₀ : Around} {Q E : Value → Shared → Prop} {gd : Option (List Code)}
/-- a contract used at a call within a walk -/
theorem use_ctr (C : Ctr d u f args H P) (B : Below A₀ base outer h₀) (F : Fr h₀ L s.heap m) (X : (hd.heap_39 w.params).In h₀) (T : Top p loose mean mg mb h₀)
    (hf : env.frame = some L) (hk : env.scope.kind ≠ .module) (hd : dd ≤ d) (hu : uu ≤ u) (hH : H w s)
    (h : ∀ v h' tk', s.heap.StaysIn h' → (1 ≤ s.toks → 1 ≤ tk') → P w s.heap h' v → Q v { s with heap := h', toks := tk' }) :
    wpAny (model prg w) { handled := none, depth := dd, frames := some (env :: outer), guards := gd, units := uu } (call (.ref f) args) Q E s := by
  have main : wpAny (model prg w) { handled := none, depth := dd, frames := some (env :: outer), guards := gd, units := uu } (call (.ref f) args) (fun v s' => (1 ≤ s.toks → 1 ≤ s'.toks) → Q v s') E s := by
   refine wpAny_call ?_
   have hnew : base.get? L = none := by
    cases hq : base.get? L with
    | none => rfl
    | some o => exact absurd (Nat.lt_of_lt_of_le (Heap.lt_size (B.stays L o hq)) F.above) (Nat.lt_irrefl _)
   have B' : Below (CA d u (env :: outer)) base (env :: outer) s.heap :=
    ⟨rfl, fun b o e => F.keep b o (B.stays b o e), .cons hk hf F.ns hnew (B.frames.of_keeps fun b o e _ => ⟨o, F.keep b o e, rfl⟩)⟩
   exact codeAny_le (C w base (env :: outer) p loose mean mg mb s _ ⟨B', X.keeps F.keep, T.keeps F.keep⟩ hH (fun v h' tk' st hP => fun ht => h v h' tk' st ht hP)) hd hu
  exact with_toks main
end
theorem Fr.grow {h₀ h h' : Heap} {L : Addr} {m : Str → Option Value} (F : Fr h₀ L h m) (st : h.StaysIn h') : Fr h₀ L h' m := F.grownK st
theorem News.grow {h₀ h h' : Heap} {L : Addr} {news : List (Addr × Obj)} (N : News h₀ L h news) (st : h.StaysIn h') : News h₀ L h' news := N.grown st
/-- a new object of a callee, onto the caller's ledger -/
theorem News.add {h₀ h h' : Heap} {L a : Addr} {o : Obj} {m : Str → Option Value} {news : List (Addr × Obj)} (F : Fr h₀ L h m) (N : News h₀ L h news) (st : h.StaysIn h') (ho : h'.get? a = some o) (hn : h.get? a = none) : News h₀ L h' ((a, o) :: news) := by
  intro q hq
  rcases List.mem_cons.mp hq with rfl | hq
  · refine ⟨ho, fun e => ?_, ?_⟩
    · obtain ⟨oL, _, _, hL, _⟩ := F.ns
      have e' : a = L := e
      rw [e', hL] at hn; cases hn
    · cases hb : h₀.get? a with
      | none => rfl
      | some o' => rw [F.keep a o' hb] at hn; cases hn
  · exact N.grown st q hq
end Mine
end PartL2

section PartCC
open PySem PySem.W PyProof.Rows PySem.Spec PySem.Calls
set_option linter.unusedVariables false
set_option maxRecDepth 100000
set_option maxHeartbeats 4000000
namespace Mine
section
variable {M : Model} {A : Around} {E : Value → Shared → Prop} {s : Shared} {env : Env}
theorem nmL {m : Str → Option Value} {x : Str} {pos : Pos} {v : Value} {Q : Value → Shared → Prop} (hn : s.heap.Ns env.locals m) (hv : m x = some v) (h : Q v s)
    (hk : env.scope.kind = .function) (hl : env.kindOf x = some .local) (hd : (x == ("__debug__" : Str)) = false := by decide) :
    wpAny M A (eval (.Name x pos) env) Q E s := wpAny_Name (wpAny_loadName_local hk hl hn hv h) hd

theorem nmG {K : Frag} {p : Program} {loose : List Str} {mean : ExcName → Option Value} {mg mb : Str → Option Value} {x : Str} {pos : Pos} {v : Value} {Q : Value → Shared → Prop} (X : K.In s.heap) (T : Top p loose mean mg mb s.heap)
    (e : nsIn K mainGlobals x = some (some v)) (h : Q v s) (hg : env.globals = mainGlobals) (hk : env.scope.kind = .function) (hx : env.kindOf x = some .globalImplicit) (hd : (x == ("__debug__" : Str)) = false := by decide) :
    wpAny M A (eval (.Name x pos) env) Q E s :=
  Name_function_global hk hx (loadGlobal_global (env := env) (by rw [hg]; exact T.g) (mg_of X T.g e) h) hd

theorem nmB {K : Frag} {p : Program} {loose : List Str} {mean : ExcName → Option Value} {mg mb : Str → Option Value} {x : Str} {pos : Pos} {v : Value} {Q : Value → Shared → Prop} (X : K.In s.heap) (T : Top p loose mean mg mb s.heap)
    (e : nsIn K mainGlobals x = some none) (hv : bootBuiltins x = some v) (hn : x ≠ "__name__") (h : Q v s) (hg : env.globals = mainGlobals) (hb : env.builtins = builtinsNs) (hk : env.scope.kind = .function) (hx : env.kindOf x = some .globalImplicit) (hd : (x == ("__debug__" : Str)) = false := by decide) :
    wpAny M A (eval (.Name x pos) env) Q E s :=
  Name_function_global hk hx (loadGlobal_builtin (env := env) (by rw [hg]; exact T.g) (mg_none_of X T.g e) (by rw [hb]; exact T.b) ((T.builtins x hn).trans hv) h) hd
end

section
variable {prog : Program} {w : World} {A : Around} {E : Value → Shared → Prop} {s : Shared} {env : Env} {h₀ : Heap} {L : Addr} {m : Str → Option Value} {news : List (Addr × Obj)}

/-- a list or a tuple of these items -/
def IsSeq (h : Heap) (l : Addr) (items : List Value) : Prop := h.IsList l items.toArray ∨ IsTup h l items.toArray
theorem IsSeq.keeps {h h' : Heap} {l : Addr} {items : List Value} (x : IsSeq h l items) (k : h.StaysIn h') : IsSeq h' l items :=
  x.imp (fun y => let ⟨o, ho, r⟩ := y; ⟨o, k _ _ ho, r⟩) (fun y => let ⟨o, ho, r⟩ := y; ⟨o, k _ _ ho, r⟩)

theorem seq_iter {l : Addr} {items : List Value} {Q : Value → Shared → Prop} (hh : A.handled = none) (hl : IsSeq s.heap l items)
    (h : ∀ (it : Addr) (St : Nat → Heap → Prop) (o : Obj), it = s.heap.objs.size → Walks prog w A it [it, l] [it] items.toArray.size (fun i v => items.toArray[i]? = some v) St → St 0 (s.heap.push o) → Q (.ref it) { s with heap := s.heap.push o }) :
    wpAny (model prog w) A (pyIter (.ref l)) Q E s := by
  rcases hl with hl | hl
  · obtain ⟨ol, hol, _⟩ := id hl
    exact wpAny_pyIter_list hl (h _ _ _ rfl (Walks.list (prog := prog) (w := w) hh s.heap.objs.size l (Nat.ne_of_lt (Heap.lt_size hol)) items.toArray) ⟨⟨_, Heap.get?_push_size _ rfl, rfl, rfl⟩, hl.push _⟩)
  · obtain ⟨ol, hol, _⟩ := id hl
    have ht : s.heap.IsTuple l items.toArray := by obtain ⟨o, ho, hc, n, hd⟩ := hl; exact ⟨o, ho, hc, n, hd⟩
    exact wpAny_pyIter_tuple ht (h _ _ _ rfl (Walks.tuple (prog := prog) (w := w) hh s.heap.objs.size l (Nat.ne_of_lt (Heap.lt_size hol)) items.toArray) ⟨⟨_, Heap.get?_push_size _ rfl, rfl, rfl⟩, ht.push _⟩)

theorem paired_len {F : Value → Value → Prop} {l₁ l₂ : List Value} (h : Paired F l₁ l₂) : l₂.length = l₁.length := by
  induction h with
  | nil => rfl
  | cons _ _ ih => simp [ih]

theorem assign_comp {elt iter : Expr} {x y : Str} {px py : Pos} {scope : Scope} {pos spos : Pos} {Q : Flow → Shared → Prop} {l : Addr} {items : List Value} (G : Value → Value → Prop)
    (hh : A.handled = none) (F : Fr h₀ env.locals s.heap m) (N : News h₀ env.locals s.heap news)
    (hsw : swapsWith (.ListComp elt [⟨.Name x px, iter, [], 0⟩] scope pos) (some (.Name y py)) spos.line env = pure true)
    (hfree : ∀ z ∈ scope.names, z.2 ≠ .free) (hcell : ∀ z ∈ scope.names, z.2 ≠ .cell) (hkind : scope.kind = .function)
    (hnames : ∀ z ∈ scope.names, z.2 = .local → scope.names.lookup z.1 = some .local) (hx : scope.names.lookup x = some .local)
    (hy : env.kindOf y = some .local) (hp : (env.scope.kind == .class || (env.scope.kind == .module && env.locals != env.globals)) = false)
    (hs : ∀ x, foldedSetIterable iter env x = pure x)
    (hsz : items.length ≤ sizeLine) (hl : IsSeq s.heap l items)
    (hiter : ∀ Q' : Value → Shared → Prop, Q' (.ref l) s → wpAny (model prog w) A (eval iter env) Q' E s)
    (helt : ∀ (C : Addr) (i : Nat) (v : Value) (s₃ : Shared) (m₃ : Str → Option Value) (E' : Value → Shared → Prop), items[i]? = some v → s₃.heap.Ns C m₃ → m₃ x = some v → s.heap.StaysIn s₃.heap →
      wpAny (model prog w) A (eval elt (compEnv scope C env)) (fun y s₄ => G v y ∧ Keeps s₃ s₄) E' s₃)
    (h : ∀ D h' tk ys n, Fr h₀ env.locals h' (fun z => if z = y then some (.ref D) else m z) → News h₀ env.locals h' ((D, { cls := .type "list", data := .seq (List.toArray ys) n }) :: news) → s.heap.get? D = none → Paired G items ys →
      Q .next { s with heap := h', toks := tk }) :
    wpAny (model prog w) A (exec (.Assign [.Name y py] (.ListComp elt [⟨.Name x px, iter, [], 0⟩] scope pos) spos) env) Q E s := by
  refine wpAny_Assign_ListComp_walk (fun _ => true) G hsw hfree hcell hkind hnames hx hy hp (hiter _ (seq_iter hh hl fun it St o e W hSt => ?_)) hs
  subst e
  have hlt : l < s.heap.objs.size := by rcases hl with ⟨_, e, _⟩ | ⟨_, e, _⟩ <;> exact Heap.lt_size e
  have hLt := F.ns.lt
  refine ⟨_, _, _, _, _, St, m, rfl, W, by simpa using hsz, hSt, fun b hb => ?_, ?_, (F.push o).ns, ⟨?_, ?_⟩, ?_⟩
  · show b < (s.heap.push o).objs.size
    rw [Heap.size_push]
    rcases List.mem_cons.mp hb with rfl | hb
    · exact Nat.lt_succ_self _
    · rw [List.mem_singleton.mp hb]; exact Nat.lt_succ_of_lt hlt
  · intro hm
    rw [List.mem_singleton] at hm
    exact absurd hLt (by rw [hm]; exact Nat.lt_irrefl _)
  · intro C i v s₃ m₃ E' hv hn hm hk htk
    exact wpAny_pure ⟨rfl, s₃.heap, s₃.toks, rfl, fun _ _ e => e⟩
  · intro C i v s₃ m₃ E' hv _ hn hm hk htk
    refine helt C i v s₃ m₃ E' (by simpa using hv) hn hm fun b ob e => hk b ob (fun hb => ?_) (Heap.get?_push_of_some _ e)
    rw [List.mem_singleton.mp hb] at e
    exact Nat.lt_irrefl _ (Heap.lt_size e)
  · intro D h' tk ys vs hD _ hpl hlen hPv hG hns hk
    have hvs : vs = items := List.ext_getElem? fun j => by
      by_cases hj : j < vs.length
      · have : items[j]? = some vs[j] := by simpa using hPv j vs[j] (by simp [hj])
        rw [this]; simp [hj]
      · have hlen' : vs.length = items.length := by simpa using hlen
        rw [List.getElem?_eq_none (by omega), List.getElem?_eq_none (by omega)]
    rw [hvs] at hG
    have hG' : Paired G items ys.toList := by rw [List.filter_eq_self.mpr (fun _ _ => rfl)] at hG; exact hG
    have hD' : s.heap.get? D = none := by
      cases hq : s.heap.get? D with
      | none => rfl
      | some q => have := Heap.get?_push_of_some o hq; rw [hD] at this; cases this
    have st : ∀ b ob, b ≠ env.locals → s.heap.get? b = some ob → h'.get? b = some ob := fun b ob hb e => hk b ob hb (fun hm => by
      rw [List.mem_singleton.mp hm] at e; exact Nat.lt_irrefl _ (Heap.lt_size e)) (Heap.get?_push_of_some _ e)
    have hL₀ : h₀.get? env.locals = none := Heap.get?_none_of_le F.above
    have F' : Fr h₀ env.locals h' (fun z => if z = y then some (.ref D) else m z) := ⟨hns, fun b ob e => st b ob (fun q => by rw [q, hL₀] at e; cases e) (F.keep b ob e), F.above⟩
    obtain ⟨n, hpl⟩ := hpl
    refine h D h' tk ys.toList n F' (fun q hq => ?_) hD' hG'
    rcases List.mem_cons.mp hq with rfl | hq
    · refine ⟨by simpa using hpl, fun e => ?_, ?_⟩
      · obtain ⟨oL, _, _, hL, _⟩ := F.ns
        have e' : D = env.locals := e
        rw [e', hL] at hD'; cases hD'
      · cases hq : h₀.get? D with
        | none => rfl
        | some ob => rw [F.keep D ob hq] at hD'; cases hD'
    · exact ⟨st _ _ (N q hq).2.1 (N q hq).1, (N q hq).2⟩
end
end Mine
end PartCC

section PartL3
open PySem PySem.W PyProof.Rows PySem.Spec PySem.Calls
set_option linter.unusedVariables false
set_option maxRecDepth 100000
set_option maxHeartbeats 4000000
namespace Mine
local macro_rules | `(tactic| ktr_enter) => `(tactic| (
  intro w base outer p loose mean mg mb s R C hH hE;
  obtain ⟨B, X, T⟩ := C;
  refine' enter B X T ?k6 ?k7 ?k8 ?k9 ?kB ?_ ?c2 ?c3 ?c4 ?c5;
  (case k6 => k_is); (case k7 => k_is); (case k8 => decide); (case k9 => exact BindsTo.of_eq rfl);
  (case kB => exact locs rfl); (case c2 => exact rfl); (case c3 => exact rfl); (case c4 => exact rfl); (case c5 => decide);
  intro L' h₁ hL' F' N'; (try dsimp only)))
theorem filled3 : (PySem.Challenge.rw_ij0006_01, hd.heap_39) = (PySem.Challenge.rw_ij0006_01, hd.heap_39) := by k_fill; rfl
local macro_rules | `(tactic| walk_at "execs cons") => `(tactic| ((try dsimp only); (with_reducible show wpAny _ _ _ _ _ (Shared.mk _ _ _ (_ + _) _)); (refine gen_toks (by omega) ?_); intro tk htk))

/-- n / 512, as the program reckons it -/
def fl512 (n : Int) : UInt64 := Float64.ofFrac (decide (n < 0) != decide ((512 : Int) < 0)) n.natAbs (Int.natAbs 512)
def readR (code : Int) : UInt64 × UInt64 × UInt64 := rgbR (fl512 (code.fdiv 1048576)) (fl512 ((code.fdiv 1024).fmod 1024)) (fl512 (code.fmod 1024))
def readOk (x y z : UInt64) : Prop := (Float64.cmp (fMin x y z) (fMax x y z) == some Ordering.eq) = false → ¬ Float64.isZero (fMax x y z) = true ∧ ¬ Float64.isZero (Float64.sub (fMax x y z) (fMin x y z)) = true
section
local macro_rules | `(tactic| walk_at "call ref") => `(tactic| (refine Stop.out ?_))
set_option pp.deepTerms false
set_option pp.maxSteps 3000
theorem read_ctr (c : Int) (t1 : Nat) (hc : 0 ≤ c ∧ c < 2 ^ 31) (hz : readOk (fl512 (c.fdiv 1048576)) (fl512 ((c.fdiv 1024).fmod 1024)) (fl512 (c.fmod 1024))) :
    Ctr 490 280 98 [.int c t1] (fun _ s => 1 ≤ s.toks) (fun _ h h' v => IsTupT h h' v (readR c)) := by
  unfold readOk fl512 at hz
  have hb1 : 0 ≤ c.fdiv 1048576 ∧ c.fdiv 1048576 < 2048 := by rw [Int.fdiv_eq_ediv_of_nonneg _ (by decide)]; omega
  have hb2 : 0 ≤ (c.fdiv 1024).fmod 1024 ∧ (c.fdiv 1024).fmod 1024 < 1024 := ⟨Int.fmod_nonneg_of_pos _ (by decide), Int.fmod_lt_of_pos _ (by decide)⟩
  have hb3 : 0 ≤ c.fmod 1024 ∧ c.fmod 1024 < 1024 := ⟨Int.fmod_nonneg_of_pos _ (by decide), Int.fmod_lt_of_pos _ (by decide)⟩
  ktr_enter
  k_fold
  k_steps
  all_goals first | (exfalso; omega) | skip
  refine Stop.on ?_
  refine use_ctr (rgb_ctr _ _ _ _ _ _ ⟨by (try dsimp only); omega, by (try dsimp only); omega, by (try dsimp only); omega⟩ (by assumption)) (by assumption) (by k_asm) (by assumption) (by assumption) rfl (by intro e; cases e) (by dsimp only [CA, Around.deeper]; omega) (by dsimp only [CA, Around.deeper]; omega) (by (try dsimp only); omega) ?_
  rintro _ h9 tk9 st9 ht9 ⟨a9, n9, u1, u2, u3, rfl, ha9, g1, g2, g3, hn9⟩
  (rename Fr _ _ _ _ => F9)
  (try k_unfold); (try dsimp only)
  refine cend (by assumption) (Fr.grow F9 st9) ?_
  exact ⟨a9, n9, u1, u2, u3, rfl, ha9, g1, g2, g3, fresh_at F9 hn9⟩
end
end Mine
end PartL3

section PartL4
open PySem PySem.W PyProof.Rows PySem.Spec PySem.Calls
set_option linter.unusedVariables false
set_option maxRecDepth 100000
set_option maxHeartbeats 4000000
namespace Mine
local macro_rules | `(tactic| ktr_enter) => `(tactic| (
  intro w base outer p loose mean mg mb s R C hH hE;
  obtain ⟨B, X, T⟩ := C;
  refine' enter B X T ?k6 ?k7 ?k8 ?k9 ?kB ?_ ?c2 ?c3 ?c4 ?c5;
  (case k6 => k_is); (case k7 => k_is); (case k8 => decide); (case k9 => exact BindsTo.of_eq rfl);
  (case kB => exact locs rfl); (case c2 => exact rfl); (case c3 => exact rfl); (case c4 => exact rfl); (case c5 => decide);
  intro L' h₁ hL' F' N'; (try dsimp only)))
theorem filled4 : (PySem.Challenge.rw_ij0006_01, hd.heap_39) = (PySem.Challenge.rw_ij0006_01, hd.heap_39) := by k_fill; rfl

theorem paired3 {G : Value → Value → Prop} {a b c : Value} {ys : List Value} (h : Paired G [a, b, c] ys) : ∃ x y z, ys = [x, y, z] ∧ G a x ∧ G b y ∧ G c z := by
  cases h with
  | cons h1 h =>
    cases h with
    | cons h2 h =>
      cases h with
      | cons h3 h => cases h; exact ⟨_, _, _, rfl, h1, h2, h3⟩

/-- 512 times the part f is the whole number n -/
structure G512 (f : UInt64) (n : Int) : Prop where
  fin : Float64.isFinite (Float64.mul (Float64.ofInt 512) f) = true
  int : Flt.toInt Float64.truncOf (Float64.mul (Float64.ofInt 512) f) = n
  eq : (Float64.cmpInt (Float64.mul (Float64.ofInt 512) f) n == some Ordering.eq) = true
  lo : 0 ≤ n
  hi : n ≤ 512

theorem eqAt_if {A : Around} {s : Shared} {n : Int} {x : UInt64} {t u : Tok} (h : (Float64.cmpInt x n == some Ordering.eq) = true) : SeqAt.EqAt A s (.int n t) (.float x u) true := fun prog w E Q hq => by
  unfold eqBool
  refine wpAny_holding ?_
  refine wpAny_ite_split (fun hab => absurd (eq_of_beq hab) (by intro e; cases e)) (fun _ => ?_)
  exact wpAny_bind (eq_if (wpAny_truthy_bool (by rw [h]; exact hq)))

set_option pp.deepTerms false
set_option pp.maxSteps 3000
theorem code_ctr (a : Addr) (x y z : UInt64) (t1 t2 t3 : Tok) (i j k : Int) (hi : G512 x i) (hj : G512 y j) (hk : G512 z k) :
    Ctr 500 300 91 [.ref a] (fun _ s => IsTup s.heap a #[.float x t1, .float y t2, .float z t3])
    (fun _ _ h' v => ∃ u, v = .int ((i * 1024 + j) * 1024 + k) u) := by
  ktr_enter
  k_fold
  (rename IsTup _ _ _ => hT)
  (rename Fr _ _ _ _ => F1)
  (rename News _ _ _ _ => N1)
  have hT1 := IsTup.keeps hT (Fr.keep F1)
  walk1
  refine assign_comp (l := a) (items := [.float x t1, .float y t2, .float z t3]) (fun v w => ∀ g t, v = .float g t → ∃ u, w = .float (Float64.mul (Float64.ofInt 512) g) u) rfl F1 N1 (by with_unfolding_all rfl) (by decide) (by decide) (by rfl) (by decide) (by rfl) (by rfl) (by rfl) (by intro _; rfl) (by show 3 ≤ sizeLine; decide) (.inr hT1) ?_ ?_ ?_
  · intro Q' h
    exact ld F1 rfl h
  · intro C i v s₃ m₃ E' hv hn hm st
    have hv' : ∃ g t, v = .float g t := by rcases i with _ | _ | _ | i <;> simp at hv <;> exact ⟨_, _, hv.symm⟩
    obtain ⟨g, t, rfl⟩ := hv'
    refine wpAny_BinOp (wpAny_Constant_int (nmL hn hm ?_ rfl rfl))
    refine mul_if_fits (by decide) ⟨fun g' t' e => ?_, s₃.heap, _, rfl, fun _ _ e => e⟩
    cases e; exact ⟨_, rfl⟩
  · intro D h2 tk2 ys n2 F2 N2 hD hG
    obtain ⟨y1, y2, y3, rfl, g1, g2, g3⟩ := paired3 hG
    obtain ⟨u1, rfl⟩ := g1 _ _ rfl
    obtain ⟨u2, rfl⟩ := g2 _ _ rfl
    obtain ⟨u3, rfl⟩ := g3 _ _ rfl
    clear g1 g2 g3 hG
    (rename Frag.In _ _ => hX)
    (rename Top _ _ _ _ _ _ => hTop)
    dsimp only
    walk1
    have hL2 : IsSeq h2 D [.float (Float64.mul (Float64.ofInt 512) x) u1, .float (Float64.mul (Float64.ofInt 512) y) u2, .float (Float64.mul (Float64.ofInt 512) z) u3] := .inl ⟨_, (N2 _ (.head _)).1, rfl, _, rfl⟩
    refine assign_comp (l := D) (fun v w => ∀ g t, v = .float g t → ∃ u, w = .int (Flt.toInt Float64.truncOf g) u) rfl F2 N2 (by with_unfolding_all rfl) (by decide) (by decide) (by rfl) (by decide) (by rfl) (by rfl) (by rfl) (by intro _; rfl) (by show 3 ≤ sizeLine; decide) hL2 ?_ ?_ ?_
    · intro Q' h
      exact ld F2 rfl h
    · intro C i' v s₃ m₃ E' hv hn hm st
      have hv' : ∃ g t, v = .float g t ∧ Float64.isFinite g = true := by
        rcases i' with _ | _ | _ | i' <;> simp at hv
        · exact ⟨_, _, hv.symm, hi.fin⟩
        · exact ⟨_, _, hv.symm, hj.fin⟩
        · exact ⟨_, _, hv.symm, hk.fin⟩
      obtain ⟨g, t, rfl, hg⟩ := hv'
      refine Call_Name1 (nmB (v := .type "int") ((hX.keeps F2.keep).keeps st) ((hTop.keeps F2.keep).keeps st) (by k_is) (by boot_by_name) (by decide) ?_ rfl rfl rfl rfl)
      refine PySem.callWith_type1 (nmL hn hm ?_ rfl rfl)
      refine Flt.call_int_float3 rfl (fun q => absurd q (fin_nan hg)) (fun q => absurd q (fin_inf hg)) fun _ => ⟨fun g' t' e => ?_, s₃.heap, _, rfl, fun _ _ e => e⟩
      cases e; exact ⟨_, rfl⟩
    · intro D' h3 tk3 zs n3 F3 N3 hD' hG
      obtain ⟨y1, y2, y3, rfl, g1, g2, g3⟩ := paired3 hG
      obtain ⟨u4, rfl⟩ := g1 _ _ rfl
      obtain ⟨u5, rfl⟩ := g2 _ _ rfl
      obtain ⟨u6, rfl⟩ := g3 _ _ rfl
      clear g1 g2 g3 hG F1 N1 F2 N2
      dsimp only
      rw [hi.int, hj.int, hk.int] at N3
      k_steps
      have hu0 : ((CA 500 300 []).units + 3) < cLine := by decide
      refine cmp_ofNotEq (SeqAt.RcNeAt.lists (items := #[.int i u4, .int j u5, .int k u6]) (items2 := #[.float (Float64.mul (Float64.ofInt 512) x) u1, .float (Float64.mul (Float64.ofInt 512) y) u2, .float (Float64.mul (Float64.ofInt 512) z) u3]) (e := fun _ => true) ⟨_, (N3 _ (.head _)).1, rfl, _, rfl⟩ ⟨_, (N3 _ (.tail _ (.head _))).1, rfl, _, rfl⟩ rfl hu0 ?_ _ _ _ _ ?_)
      · intro q h1 h2
        rcases q with _ | _ | _ | q
        · exact eqAt_if hi.eq
        · exact eqAt_if hj.eq
        · exact eqAt_if hk.eq
        · exact absurd h1 (by simp)
      · have hr : (!(List.range (#[Value.int i u4, Value.int j u5, Value.int k u6] : Array Value).size).all fun _ => true) = false := by rfl
        rw [hr]
        k_steps
        (try k_unfold); (try dsimp only)
        refine cend (by assumption) (by k_asm) ?_
        exact ⟨_, rfl⟩
end Mine
end PartL4

section PartL5
open PySem PySem.W PyProof.Rows PySem.Spec PySem.Calls
set_option linter.unusedVariables false
set_option maxRecDepth 100000
set_option maxHeartbeats 4000000
namespace Mine
local macro_rules | `(tactic| ktr_enter) => `(tactic| (
  intro w base outer p loose mean mg mb s R C hH hE;
  obtain ⟨B, X, T⟩ := C;
  refine' enter B X T ?k6 ?k7 ?k8 ?k9 ?kB ?_ ?c2 ?c3 ?c4 ?c5;
  (case k6 => k_is); (case k7 => k_is); (case k8 => decide); (case k9 => exact BindsTo.of_eq rfl);
  (case kB => exact locs rfl); (case c2 => exact rfl); (case c3 => exact rfl); (case c4 => exact rfl); (case c5 => decide);
  intro L' h₁ hL' F' N'; (try dsimp only)))
theorem filled5 : (PySem.Challenge.rw_ij0006_01, hd.heap_39) = (PySem.Challenge.rw_ij0006_01, hd.heap_39) := by k_fill; rfl
def wayOf (p c : Int) : Int := if (c - p).fmod 96 < (p - c).fmod 96 then (c - p).fmod 96 else (p - c).fmod 96
def fallOf (p c : Int) : Int := if (if wayOf p c - 16 > 0 then wayOf p c - 16 else 0) < 16 then (if wayOf p c - 16 > 0 then wayOf p c - 16 else 0) else 16
def partOf (p q r c : Int) : Int := r * (128 - q * fallOf p c)
/-- the code that a name tells -/
def dueOf (p q r : Int) : Int := 1024 * (1024 * (1024 * 0 + partOf p q r 0) + partOf p q r 32) + partOf p q r 64
theorem due_ctr (a : Addr) (p q r : Int) (t1 t2 t3 : Tok) (hp : 0 ≤ p ∧ p < 96) (hq : 0 ≤ q ∧ q ≤ 8) (hr : 0 ≤ r ∧ r ≤ 4) :
    Ctr 500 300 119 [.ref a] (fun _ s => IsTup s.heap a #[.int p t1, .int q t2, .int r t3])
    (fun _ _ h' v => ∃ u, v = .int (dueOf p q r) u) := by
  ktr_enter
  k_fold
  k_steps
  (try k_unfold); (try dsimp only)
  refine cend (by assumption) (by k_asm) ?_
  exact ⟨_, rfl⟩
end Mine
end PartL5

section PartCL
open PySem PySem.W PyProof.Rows PySem.Spec PySem.Calls
set_option linter.unusedVariables false
set_option maxRecDepth 100000
set_option maxHeartbeats 4000000
namespace Mine
section
variable {prog : Program} {w : World} {A : Around} {E : Value → Shared → Prop} {s : Shared} {env : Env} {h₀ : Heap} {x : Str} {body : List Stmt}

/-- a turn's end -/
def TurnEnd (h₀ : Heap) (L : Addr) (I : Addr) (own : List (Addr × Obj)) (J : (Str → Option Value) → List (Addr × Obj) → Prop) (s₁ : Shared) (f : Flow) (s₂ : Shared) : Prop :=
  f = .next ∧ ∃ h' tk m₂ news₂, s₂ = { s₁ with heap := h', toks := tk } ∧ Fr h₀ L h' m₂ ∧ News h₀ L h' (own ++ news₂) ∧ (∀ p ∈ news₂, p.1 ≠ I) ∧ J m₂ news₂
theorem TurnEnd.intro {L I : Addr} {own news₂ : List (Addr × Obj)} {J : (Str → Option Value) → List (Addr × Obj) → Prop} {s₁ : Shared} {h' : Heap} {tk : Nat} {m₂ : Str → Option Value}
    (F : Fr h₀ L h' m₂) (N : News h₀ L h' (own ++ news₂)) (ha : ∀ p ∈ news₂, p.1 ≠ I) (hJ : J m₂ news₂) : TurnEnd h₀ L I own J s₁ .next { s₁ with heap := h', toks := tk } :=
  ⟨rfl, h', tk, m₂, news₂, rfl, F, N, ha, hJ⟩

/-- what the loop wants where its iterator stands -/
def LoopT (prog : Program) (w : World) (A : Around) (h₀ : Heap) (env : Env) (x : Str) (body : List Stmt) (Q : Flow → Shared → Prop) (it : Value) (s₂ : Shared) : Prop :=
  ∃ (I : Addr) (fp : List Addr) (n : Nat) (P : Nat → Value → Prop) (St : Nat → Heap → Prop) (m : Str → Option Value) (news : List (Addr × Obj)) (J : Nat → (Str → Option Value) → List (Addr × Obj) → Prop),
    it = .ref I ∧ Walks prog w A I fp [I] n P St ∧ env.locals ∉ fp ∧ h₀.get? I = none ∧ (∀ p ∈ news, p.1 ≠ I) ∧ St 0 s₂.heap ∧ Fr h₀ env.locals s₂.heap m ∧ News h₀ env.locals s₂.heap news ∧ J 0 m news ∧ 1 ≤ s₂.toks ∧
    (∃ oI, s₂.heap.get? I = some oI) ∧ (∀ i h, St i h → ∃ oI, h.get? I = some oI) ∧
    (∀ i v m₁ news₁ h tk own, i < n → P i v → J i m₁ news₁ → 1 ≤ tk → (∀ p ∈ news₁, p.1 ≠ I) → (∃ oI, (I, oI) ∈ own) → (∀ p ∈ own, p.1 ∈ fp) →
      Fr h₀ env.locals h (fun y => if y = x then some v else m₁ y) → News h₀ env.locals h (own ++ news₁) →
      wpAny (model prog w) A (execs body env) (TurnEnd h₀ env.locals I own (J (i + 1)) { s₂ with heap := h, toks := tk }) (fun _ _ => False) { s₂ with heap := h, toks := tk }) ∧
    ∀ h' tk m' news', 1 ≤ tk → Fr h₀ env.locals h' m' → News h₀ env.locals h' news' → (∀ p ∈ news', p.1 ≠ I) → J n m' news' → Q .next { s₂ with heap := h', toks := tk }

theorem forLoop_T {R : Result → Shared → Prop} {px : Pos} {I : Addr} {fp : List Addr} {n : Nat} {P : Nat → Value → Prop} {St : Nat → Heap → Prop} {m : Str → Option Value}
    {news : List (Addr × Obj)} (W : Walks prog w A I fp [I] n P St) (hx : env.kindOf x = some .local)
    (hp : (env.scope.kind == .class || (env.scope.kind == .module && env.locals != env.globals)) = false)
    (hLf : env.locals ∉ fp) (hI : h₀.get? I = none) (hnw : ∀ p ∈ news, p.1 ≠ I)
    (hst : St 0 s.heap) (F : Fr h₀ env.locals s.heap m) (N : News h₀ env.locals s.heap news) (ht : 1 ≤ s.toks) (live : ∀ i h, St i h → ∃ oI, h.get? I = some oI)
    (J : Nat → (Str → Option Value) → List (Addr × Obj) → Prop) (h0 : J 0 m news)
    (step : ∀ i v m₁ news₁ h tk own, i < n → P i v → J i m₁ news₁ → 1 ≤ tk → (∀ p ∈ news₁, p.1 ≠ I) → (∃ oI, (I, oI) ∈ own) → (∀ p ∈ own, p.1 ∈ fp) →
      Fr h₀ env.locals h (fun y => if y = x then some v else m₁ y) → News h₀ env.locals h (own ++ news₁) →
      wpAny (model prog w) A (execs body env) (TurnEnd h₀ env.locals I own (J (i + 1)) { s with heap := h, toks := tk }) (fun _ _ => False) { s with heap := h, toks := tk })
    (hR : ∀ h' tk m' news', 1 ≤ tk → Fr h₀ env.locals h' m' → News h₀ env.locals h' news' → (∀ p ∈ news', p.1 ≠ I) → J n m' news' → R (.ok .next) { s with heap := h', toks := tk }) :
    codeAny (model prog w) A (.forLoop (.Name x px) (.ref I) body [] env) R s := by
  have hIf : I ∈ fp := W.sub _ (.head _)
  have hLI : env.locals ≠ I := fun h => hLf (h ▸ hIf)
  refine codeAny_forLoop
    (fun k s' => ∃ h' tk m' news' i, s' = { s with heap := h', toks := tk } ∧ St i h' ∧ Fr h₀ env.locals h' m' ∧ News h₀ env.locals h' news' ∧ (∀ p ∈ news', p.1 ≠ I) ∧ J i m' news' ∧ i ≤ n ∧ k = n + 1 - i ∧ 1 ≤ tk) ?_ (n + 1)
    ⟨s.heap, s.toks, m, news, 0, rfl, hst, F, N, hnw, h0, Nat.zero_le _, rfl, ht⟩
  rintro k s' ⟨h', tk, m', news', i, rfl, hst', F', N', hnw', hJ, hi, rfl, htk⟩
  have next : ∀ h₁ : Heap, (∀ b o, b ∉ [I] → h'.get? b = some o → h₁.get? b = some o) → Fr h₀ env.locals h₁ m' ∧ News h₀ env.locals h₁ news' := fun h₁ hk₁ =>
    ⟨⟨F'.ns.at' fun o e => hk₁ _ o (by simpa using hLI) e, fun b o e => hk₁ b o (by rw [List.mem_singleton]; intro q; rw [q, hI] at e; cases e) (F'.keep b o e), F'.above⟩, fun p hp => ⟨hk₁ _ _ (by simpa using hnw' p hp) (N' p hp).1, (N' p hp).2⟩⟩
  by_cases hlt : i < n
  · refine with_toks (W.item i _ _ _ hlt hst' fun v h₁ tk₁ hP hst₁ hk₁ htk₁ => ?_)
    have htk₁' := htk₁ htk
    obtain ⟨F₁, N₁⟩ := next h₁ hk₁
    refine wpAny_assign_Name (wpAny_storeName_local hx F₁.ns (fun h₂ hn₂ hs₂ => ?_) hp)
    have F₂ := F₁.set hn₂ hs₂
    have Nown : News h₀ env.locals h₂ (ownOf h₀ fp h₂) := news_ownOf hLf
    have hst₂ : St (i + 1) h₂ := W.frame _ _ _ hst₁ fun b hb o e => (hs₂.2 b fun q => hLf (q ▸ hb)).trans e
    obtain ⟨oI, hoI⟩ := live _ _ hst₂
    have ht2 : 1 ≤ ({ s with heap := h₂, toks := tk₁ + 1 } : Shared).toks := Nat.le_succ_of_le htk₁'
    refine wpAny_mono (wpAny_toks_of ht2 (step i v m' news' h₂ (tk₁ + 1) (ownOf h₀ fp h₂) hlt hP hJ (Nat.le_succ_of_le htk₁') hnw' ⟨oI, mem_ownOf hIf hI hoI⟩ ownOf_sub F₂ (Nown.append (N₁.set hs₂)))) (fun f s₃ h₃ => ?_) fun _ _ e => e.2.elim
    obtain ⟨ht₃, rfl, h₃', tk₃, m₂, news₂, rfl, F₃, N₃, ha₃, hJ₃⟩ := h₃
    refine ⟨n + 1 - (i + 1), by omega, h₃', tk₃, m₂, news₂, i + 1, rfl, ?_, F₃, N₃.right, ha₃, hJ₃, hlt, rfl, ht₃⟩
    refine W.frame _ _ _ hst₁ fun b hb o e => ?_
    have e₂ : h₂.get? b = some o := (hs₂.2 b fun q => hLf (q ▸ hb)).trans e
    cases hn : h₀.get? b with
    | some o₀ =>
      have : o₀ = o := by have := F₂.keep b o₀ hn; rw [e₂] at this; exact (Option.some.inj this).symm
      exact this ▸ F₃.keep b o₀ hn
    | none => exact (N₃ _ (List.mem_append_left _ (mem_ownOf hb hn e₂))).1
  · have hin : i = n := by omega
    subst hin
    refine with_toks (W.done _ _ _ hst' fun h₁ tk₁ hk₁ htk₁ => wpAny_execs_nil ?_)
    obtain ⟨F₁, N₁⟩ := next h₁ hk₁
    exact hR h₁ tk₁ m' news' (htk₁ htk) F₁ N₁ hnw' hJ

theorem For_T {Q : Flow → Shared → Prop} {px pos : Pos} {iter : Expr} (h₀ : Heap) (hx : env.kindOf x = some .local)
    (hp : (env.scope.kind == .class || (env.scope.kind == .module && env.locals != env.globals)) = false)
    (h : wpAny (model prog w) A (eval iter env) (fun xv s₁ => wpAny (model prog w) A (pyIter xv) (fun it s₂ => LoopT prog w A h₀ env x body Q it s₂) E s₁) E s)
    (hs : ∀ x, foldedSetIterable iter env x = pure x) :
    wpAny (model prog w) A (exec (.For (.Name x px) iter body [] pos) env) Q E s := by
  refine wpAny_For (wpAny_mono h (fun xv s₁ h₁ => wpAny_mono h₁ (fun it s₂ h₂ => ?_) fun _ _ e => e) fun _ _ e => e) hs
  obtain ⟨I, fp, n, P, St, m, news, J, rfl, W, hLf, hI, hnw, hst, F, N, h0, ht, _, live, step, hQ⟩ := h₂
  exact forLoop_T (R := fun r s' => match r with | .ok f => Q f s' | .error e => cameBackBy (model prog w) A env E e s') W hx hp hLf hI hnw hst F N ht live J h0 step hQ

/-- over a list that stands -/
theorem iter_T {Q : Flow → Shared → Prop} {l : Addr} {items : List Value} {m : Str → Option Value} {news : List (Addr × Obj)} (J : Nat → (Str → Option Value) → List (Addr × Obj) → Prop)
    (hh : A.handled = none) (hl : s.heap.IsList l items.toArray) (hlL : l ≠ env.locals) (F : Fr h₀ env.locals s.heap m) (N : News h₀ env.locals s.heap news) (ht : 1 ≤ s.toks) (hj : J 0 m news)
    (turn : ∀ i v m₁ news₁ h tk own I, items[i]? = some v → J i m₁ news₁ → 1 ≤ tk → (∀ p ∈ news₁, p.1 ≠ I) → (∃ oI, (I, oI) ∈ own) → (∀ p ∈ own, p.1 = I ∨ p.1 = l) → s.heap.objs.size ≤ I →
      Fr h₀ env.locals h (fun y => if y = x then some v else m₁ y) → News h₀ env.locals h (own ++ news₁) →
      wpAny (model prog w) A (execs body env) (TurnEnd h₀ env.locals I own (J (i + 1)) { s with heap := h, toks := tk }) (fun _ _ => False) { s with heap := h, toks := tk })
    (done : ∀ h' tk m' news', 1 ≤ tk → Fr h₀ env.locals h' m' → News h₀ env.locals h' news' → J items.length m' news' → Q .next { s with heap := h', toks := tk }) :
    wpAny (model prog w) A (pyIter (.ref l)) (fun it s₂ => LoopT prog w A h₀ env x body Q it s₂) E s := by
  obtain ⟨ol, hol, _⟩ := id hl
  have hlt := Heap.lt_size hol
  have hne : l ≠ s.heap.objs.size := Nat.ne_of_lt hlt
  refine wpAny_pyIter_list hl ?_
  have W := Walks.list (prog := prog) (w := w) hh s.heap.objs.size l hne items.toArray
  have hlen : items.toArray.size = items.length := by simp
  rw [hlen] at W
  refine ⟨_, _, _, _, _, m, news, J, rfl, W, ?_, next_is_new F, ?_, ⟨⟨_, Heap.get?_push_size _ rfl, rfl, rfl⟩, hl.push _⟩, F.push _, (fun p hp => ⟨Heap.get?_push_of_some _ (N p hp).1, (N p hp).2⟩), hj, ht, ⟨_, Heap.get?_push_size _ rfl⟩, ?_, ?_, ?_⟩
  · intro hm
    rcases List.mem_cons.mp hm with e | hm
    · exact absurd F.ns.lt (e ▸ Nat.lt_irrefl _)
    · exact hlL (List.mem_singleton.mp hm).symm
  · intro p hp hI
    exact absurd (Heap.lt_size (N p hp).1) (hI ▸ Nat.lt_irrefl _)
  · intro i h hst
    obtain ⟨o, e, _⟩ := hst.1
    exact ⟨o, e⟩
  · intro i v m₁ news₁ h tk own hi hP hJ htk hnI hI hown F₁ N₁
    exact turn i v m₁ news₁ h tk own _ (by simpa using hP) hJ htk hnI hI (fun p hp => by
      rcases List.mem_cons.mp (hown p hp) with e | e
      · exact .inl e
      · exact .inr (List.mem_singleton.mp e)) (Nat.le_refl _) F₁ N₁
  · intro h' tk m' news' htk F' N' _ hJ
    exact done h' tk m' news' htk F' N' hJ
end
theorem fr_know {h₀ h : Heap} {L : Addr} {m : Str → Option Value} (x : Str) {v : Value} (F : Fr h₀ L h m) (hv : m x = some v) : Fr h₀ L h (fun y => if y = x then some v else m y) := by
  have e : (fun y => if y = x then some v else m y) = m := by
    funext y
    by_cases hy : y = x
    · subst hy; rw [if_pos rfl, hv]
    · rw [if_neg hy]
  rw [e]; exact F
theorem know_else {x z : Str} {u : Option Value} {m : Str → Option Value} {v : Value} (hne : decide (z = x) = false) (h : m z = some v) : (fun y => if y = x then u else m y) z = some v := by
  show (if z = x then u else m z) = some v
  rw [if_neg (of_decide_eq_false hne), h]
theorem News.sub {h₀ h : Heap} {L : Addr} {news news' : List (Addr × Obj)} (N : News h₀ L h news') (hs : ∀ p ∈ news, p ∈ news') : News h₀ L h news := fun p hp => N p (hs p hp)
end Mine
end PartCL

section PartL6
open PySem PySem.W PyProof.Rows PySem.Spec PySem.Calls
set_option linter.unusedVariables false
set_option maxRecDepth 100000
set_option maxHeartbeats 4000000
namespace Mine
local macro_rules | `(tactic| ktr_enter) => `(tactic| (
  intro w base outer p loose mean mg mb s R C hH hE;
  obtain ⟨B, X, T⟩ := C;
  refine' enter B X T ?k6 ?k7 ?k8 ?k9 ?kB ?_ ?c2 ?c3 ?c4 ?c5;
  (case k6 => k_is); (case k7 => k_is); (case k8 => decide); (case k9 => exact BindsTo.of_eq rfl);
  (case kB => exact locs rfl); (case c2 => exact rfl); (case c3 => exact rfl); (case c4 => exact rfl); (case c5 => decide);
  intro L' h₁ hL' F' N'; (try dsimp only)))
theorem filled6 : (PySem.Challenge.rw_ij0006_01, hd.heap_39) = (PySem.Challenge.rw_ij0006_01, hd.heap_39) := by k_fill; rfl
abbrev half : UInt64 := 4602678819172646912
/-- where a hue stands, moved on -/
def movedTo (h : UInt64) (step : Int) : Int := Flt.toInt Float64.truncOf (Float64.add (Float64.mul (Float64.ofInt 96) h) half) + step
/-- n / 96, as the program reckons it -/
def fl96 (n : Int) : UInt64 := Float64.ofFrac (decide (n < 0) != decide ((96 : Int) < 0)) n.natAbs (Int.natAbs 96)
def turnR (c step : Int) : UInt64 × UInt64 × UInt64 := hsvR (fl96 (movedTo (readR c).1 step)) (readR c).2.1 (readR c).2.2
/-- what the floats must do for the colour c, moved on, to be told as r -/
structure TurnOk (c step r : Int) : Prop where
  rng : 0 ≤ c ∧ c < 2 ^ 31
  read : readOk (fl512 (c.fdiv 1048576)) (fl512 ((c.fdiv 1024).fmod 1024)) (fl512 (c.fmod 1024))
  fin : Float64.isFinite (Float64.add (Float64.mul (Float64.ofInt 96) (readR c).1) half) = true
  mov : 0 ≤ movedTo (readR c).1 step ∧ movedTo (readR c).1 step < 1000
  fin6 : Float64.isFinite (Float64.mul (fl96 (movedTo (readR c).1 step)) six) = true
  six' : 0 ≤ hsvI (fl96 (movedTo (readR c).1 step)) ∧ hsvI (fl96 (movedTo (readR c).1 step)) < 1000
  out : ∃ i j k, G512 (turnR c step).1 i ∧ G512 (turnR c step).2.1 j ∧ G512 (turnR c step).2.2 k ∧ r = (i * 1024 + j) * 1024 + k

theorem IntsAre.at9 {vs : List Value} {ns : List Int} (h : IntsAre vs ns) {i : Nat} {v : Value} (hv : vs[i]? = some v) : ∃ n t, ns[i]? = some n ∧ v = .int n t := by
  induction h generalizing i with
  | nil => simp at hv
  | cons n t _ ih =>
    cases i with
    | zero => simp at hv; exact ⟨n, t, rfl, hv.symm⟩
    | succ i => simp only [List.getElem?_cons_succ] at hv ⊢; exact ih hv

section
local macro_rules | `(tactic| walk_at "call ref") => `(tactic| (refine Stop.out ?_))
local macro_rules | `(tactic| walk_at "exec For Name Name cons nil") => `(tactic| (refine Stop.out ?_))
local macro_rules | `(tactic| walk_at "call builtin:list.append") => `(tactic| (refine Stop.out ?_))
local macro_rules | `(tactic| walk_at "execs cons") => `(tactic| ((try dsimp only); (with_reducible show wpAny _ _ _ _ _ (Shared.mk _ _ _ (_ + _) _)); (refine gen_toks (by omega) ?_); intro tk htk))
set_option pp.deepTerms false
set_option pp.maxSteps 3000
theorem turned_ctr (l : Addr) (vs : List Value) (cs : List Int) (step : Int) (f : Int → Int) (t1 : Tok) (hv : IntsAre vs cs) (hf : ∀ c ∈ cs, TurnOk c step (f c)) (hlen : cs.length ≤ 1000) :
    Ctr 450 250 105 [.ref l, .int step t1] (fun _ s => 1 ≤ s.toks ∧ s.heap.IsList l vs.toArray)
    (fun _ h h' v => ∃ D ws n, v = .ref D ∧ h.get? D = none ∧ h'.get? D = some { cls := .type "list", data := .seq (List.toArray ws) n } ∧ IntsAre ws (cs.map f)) := by
  intro w base outer p loose mean mg mb s R C hH hE
  obtain ⟨B, X, T⟩ := C
  refine' enter B X T ?k6 ?k7 ?k8 ?k9 ?kB ?_ ?c2 ?c3 ?c4 ?c5
  (case k6 => k_is); (case k7 => k_is); (case k8 => decide); (case k9 => exact BindsTo.of_eq rfl)
  (case kB => exact locs rfl); (case c2 => exact rfl); (case c3 => exact rfl); (case c4 => exact rfl); (case c5 => decide)
  intro L' h₁ hL' F' N'; (try dsimp only)
  obtain ⟨ht, hl⟩ := hH
  k_fold
  k_steps
  refine Stop.on ?_
  (rename Fr _ _ _ _ => F1)
  (rename News _ _ _ _ => N1)
  have hl1 := hl.at (fun o e => F1.keep l o e)
  have hlL : l ≠ L' := by
    intro e; subst e; subst hL'
    obtain ⟨o, ho, _⟩ := hl
    exact Nat.lt_irrefl _ (Heap.lt_size ho)
  refine For_T s.heap rfl rfl (ld F1 rfl (iter_T (l := l) (items := vs) (fun i m' news' => ∃ d ws n, m' "turned" = some (.ref d) ∧ m' "step" = some (.int step t1) ∧ news' = [(d, { cls := .type "list", data := .seq (List.toArray ws) n })] ∧ IntsAre ws ((cs.take i).map f)) rfl hl1 hlL F1 N1 (by assumption) ?_ ?_ ?_)) (by intro _; rfl)
  · exact ⟨_, [], 0, rfl, rfl, rfl, .nil⟩
  · rintro i v m₁ news₁ h tk own I hvi ⟨d, ws, n, hmd, hms, rfl, hws⟩ htk hnI ⟨oI, hoI⟩ hown hI F N
    obtain ⟨c, t, hci, rfl⟩ := IntsAre.at9 hv hvi
    have hc := hf c (List.mem_of_getElem? hci)
    clear F1 N1 hl1
    have F1 := fr_know "step" F (v := .int step t1) (by rw [if_neg (by decide)]; exact hms)
    have F2 := fr_know "turned" F1 (v := .ref d) (by rw [if_neg (by decide), if_neg (by decide)]; exact hmd)
    clear F1
    clear F
    dsimp only
    k_steps
    refine Stop.on ?_
    refine use_ctr (read_ctr c t hc.rng hc.read) (by assumption) (by k_asm) (by assumption) (by assumption) rfl (by intro e; cases e) (by dsimp only [CA, Around.deeper]; omega) (by dsimp only [CA, Around.deeper]; omega) (by (try dsimp only); omega) ?_
    rintro _ h9 tk9 st9 ht9 ⟨a9, n9, u1, u2, u3, rfl, ha9, hu1, hu2, hu3, hn9⟩
    have ht9' : 1 ≤ tk9 := ht9 (by (try dsimp only); omega)
    have hT9 : IsTup h9 a9 #[.float (readR c).1 u1, .float (readR c).2.1 u2, .float (readR c).2.2 u3] := ⟨_, ha9, rfl, _, rfl⟩
    have F9 := Fr.grow F2 st9
    have N9 := News.grow N st9
    clear ht9 ha9
    have hfn := fin_nan hc.fin
    have hfi := fin_inf hc.fin
    have hmv : 0 ≤ Flt.toInt Float64.truncOf (Float64.add (Float64.mul (Float64.ofInt 96) (readR c).1) 4602678819172646912) + step ∧ Flt.toInt Float64.truncOf (Float64.add (Float64.mul (Float64.ofInt 96) (readR c).1) 4602678819172646912) + step < 1000 := hc.mov
    dsimp only
    k_steps
    all_goals first | contradiction | (exfalso; omega) | skip
    refine Stop.on ?_
    refine use_ctr (hsv_ctr _ _ _ _ _ _ hc.fin6 hc.six') (by assumption) (by k_asm) (by assumption) (by assumption) rfl (by intro e; cases e) (by dsimp only [CA, Around.deeper]; omega) (by dsimp only [CA, Around.deeper]; omega) trivial ?_
    rintro _ h10 tk10 st10 ht10 ⟨a10, n10, v1, v2, v3, rfl, ha10⟩
    have ht10' : 1 ≤ tk10 := ht10 (by (try dsimp only); omega)
    (rename Fr _ _ _ _ => F9')
    (rename News _ _ _ _ => N9')
    have F10 := Fr.grow F9' st10
    have N10 := News.grow N9' st10
    have hT10 : IsTup h10 a10 #[.float (turnR c step).1 v1, .float (turnR c step).2.1 v2, .float (turnR c step).2.2 v3] := ⟨_, ha10, rfl, _, rfl⟩
    obtain ⟨oi, oj, ok, hoi, hoj, hok, hout⟩ := hc.out
    dsimp only
    k_steps
    refine Stop.on ?_
    refine use_ctr (code_ctr a10 _ _ _ v1 v2 v3 oi oj ok hoi hoj hok) (by assumption) (by k_asm) (by assumption) (by assumption) rfl (by intro e; cases e) (by dsimp only [CA, Around.deeper]; omega) (by dsimp only [CA, Around.deeper]; omega) hT10 ?_
    rintro _ h11 tk11 st11 ht11 ⟨u11, rfl⟩
    have F11 := Fr.grow F10 st11
    have N11 := News.grow N10 st11
    dsimp only
    k_steps
    refine Stop.on ?_
    have hdI : d ≠ I := hnI _ (.head _)
    have hdl : d ≠ l := by
      intro e
      obtain ⟨o, ho, _⟩ := hl
      have q := (N11 (d, listOf ws.toArray n) (List.mem_append_right _ (.head _))).2.2
      rw [e, ho] at q
      cases q
    have hne : ∀ p ∈ own, p.1 ≠ d := fun p hp => (hown p hp).elim (fun e => e ▸ hdI.symm) (fun e => e ▸ hdl.symm)
    have N12 : News s.heap L' h11 ((d, listOf ws.toArray n) :: own) := News.sub N11 (fun p hp => by
      rcases List.mem_cons.mp hp with rfl | hp
      · exact List.mem_append_right _ (.head _)
      · exact List.mem_append_left _ hp)
    have hwl : ws.length ≤ 1000 := by
      have q := IntsAre.length hws
      rw [List.length_map, List.length_take] at q
      omega
    refine append_K F11 N12 (.head hne) ?_ (by rw [List.size_toArray, sizeLine_eq]; omega)
    intro h12 F12 N13
    refine wpAny_execs_nil ?_
    refine TurnEnd.intro (news₂ := [(d, listOf (ws.toArray.push (.int ((oi * 1024 + oj) * 1024 + ok) u11)) (n + 1))]) F12 (News.sub N13 (fun p hp => by
      rcases List.mem_append.mp hp with hp | hp
      · exact .tail _ hp
      · rw [List.mem_singleton.mp hp]; exact .head _)) (fun p hp => by rw [List.mem_singleton.mp hp]; exact hdI) ?_
    refine ⟨d, ws ++ [.int ((oi * 1024 + oj) * 1024 + ok) u11], n + 1, rfl, rfl, by simp, ?_⟩
    rw [List.take_add_one, hci, Option.toList_some, List.map_append, List.map_cons, List.map_nil, hout]
    exact hws.append (.cons _ _ .nil)
  · rintro h' tk m' news' htk F N ⟨d, ws, n, hmd, hms, rfl, hws⟩
    have F3 := fr_know "turned" F (v := .ref d) hmd
    clear F F1 N1
    dsimp only
    k_steps
    (try k_unfold); (try dsimp only)
    have q := IntsAre.length hv
    rw [show vs.length = cs.length from q, List.take_length] at hws
    refine cend (by assumption) (by k_asm) ?_
    refine ⟨d, ws, n, rfl, ?_, ?_, hws⟩
    · exact (N _ (.head _)).2.2
    · exact (N _ (.head _)).1
end
end Mine
end PartL6

section PartAT
open PySem PySem.W PyProof.Rows PySem.Spec PySem.Calls
set_option linter.unusedVariables false
set_option maxRecDepth 100000
set_option maxHeartbeats 4000000
namespace Mine
theorem lk_set_contains : typeLookup (.type "set") "__contains__" = pure (some (.builtin "set.__contains__")) := by rw [typeLookup_type, builtinLookup_eq_fast]; kernel_rfl
theorem ty_set_contains (s : Shared) : s.TypeIs (.builtin "set.__contains__") "method_descriptor" := by
  first | exact F.typeOf_set_contains | (show typeOf _ = _; kernel_rfl) | (show typeOf _ = pure (.type _); rfl)
theorem slot_md_get : Slot "method_descriptor" "__get__" "method_descriptor.__get__" :=
  .of (owner := "method_descriptor") (n := "__get__") (by rw [typeLookup_type, builtinLookup_eq_fast]; kernel_rfl) (by decide +kernel) (by decide +kernel) (by decide +kernel)
    (by first | exact .inl (by decide +kernel) | exact .inr (by decide +kernel)) (by rw [isSubtype_type]; kernel_rfl)
theorem md_no_set : typeLookup (.type "method_descriptor") "__set__" = pure none := by rw [typeLookup_type, builtinLookup_eq_fast]; kernel_rfl
theorem md_no_del : typeLookup (.type "method_descriptor") "__delete__" = pure none := by rw [typeLookup_type, builtinLookup_eq_fast]; kernel_rfl
theorem entry_md_get : entryFor table "method_descriptor.__get__" = some Builtin.«method_descriptor.__get__» := by first | exact entryFor_of_fast (by kernel_rfl) | exact entryFor_of_tree (by kernel_rfl)
theorem args_md_get (a b c : Value) : argsOk "method_descriptor.__get__" ⟨[a, b, c], []⟩ := by unfold argsOk; kernel_rfl
theorem not_told : Manifest.toldItsClass.contains "set.__contains__" = false := by decide +kernel

theorem owner_contains : (".".intercalate ("set.__contains__".cutAt '.').dropLast) = "set" := by
  have e0 : "set.__contains__".cutAt '.' = ["set", "__contains__"] := by first | rfl | decide +kernel
  rw [e0]; decide +kernel
theorem sub_set_owner : isSubtype (.type "set") (.type (".".intercalate ("set.__contains__".cutAt '.').dropLast)) = pure true := by
  rw [owner_contains, isSubtype_type]; kernel_rfl
theorem ty_contains : typeOf (.builtin "set.__contains__") = pure (.type "method_descriptor") := by kernel_rfl
abbrev boundIn (S : Addr) : Obj := { cls := .type "builtin_function_or_method", data := .fields #[.builtin "set.__contains__", .ref S] }

section
variable {prog : Program} {w : World} {A : Around} {E : Value → Shared → Prop} {h : Heap} {g : Array GenState} {d : Drawn} {t : Nat} {os : OsState} {S : Addr} {o : Obj}
theorem md_get_run {Q : Fin → Shared → Prop} (hx : h.get? S = some o) (hc : o.cls = .type "set")
    (hq : Q (.done (.ret (.ref h.objs.size))) ⟨h.push (boundIn S), g, d, t, os⟩) :
    wpAny (model prog w) A (Builtin.«method_descriptor.__get__» ⟨[.builtin "set.__contains__", .ref S, .type "set"], []⟩) Q E ⟨h, g, d, t, os⟩ := by
  have hT : (⟨h, g, d, t, os⟩ : Shared).TypeIs (.ref S) "set" := ⟨_, hx, hc⟩
  have f1 := not_told
  have f2 := sub_set_owner
  repeat (any_goals (first | assumption | wp_step))

theorem md_get_call {R : Result → Shared → Prop} (hx : h.get? S = some o) (hc : o.cls = .type "set")
    (hq : R (.ok (.ret (.ref h.objs.size))) ⟨h.push (boundIn S), g, d, t, os⟩) :
    codeAny (model prog w) A (.call (.builtin "method_descriptor.__get__") ⟨[.builtin "set.__contains__", .ref S, .type "set"], []⟩) R ⟨h, g, d, t, os⟩ :=
  codeAny_call_builtin slot_md_get.plain entry_md_get (slot_md_get.check _ _ _ _ _ _ _ _ (show (⟨h, g, d, t, os⟩ : Shared).TypeIs (.builtin "set.__contains__") "method_descriptor" from ty_contains) (args_md_get _ _ _) (md_get_run hx hc hq))

theorem contains_entry {tk : Tok} {Q : Fin → Shared → Prop} {es : Array (Int × Value)} {ep : Nat} {tb : SetTable} (hx : h.get? S = some { cls := .type "set", dict := none, data := .set es ep tb, slots := #[] })
    (hq : Q (.done (.ret (.ref h.objs.size))) ⟨h.push (boundIn S), g, d, t, os⟩) :
    wpAny (model prog w) A (Builtin.«object.__getattribute__» ⟨[.ref S, .str "__contains__" tk], []⟩) Q E ⟨h, g, d, t, os⟩ := by
  have hT : (⟨h, g, d, t, os⟩ : Shared).TypeIs (.ref S) "set" := ⟨_, hx, rfl⟩
  have hT5 : (⟨h, g, d, t, os⟩ : Shared).TypeIs (.builtin "set.__contains__") "method_descriptor" := ty_contains
  have f4 := lk_set_contains
  have f5 := ty_contains
  have f6 := slot_md_get.lookup
  have f7 := md_no_set
  have f8 := md_no_del
  repeat (any_goals (first | assumption | with_reducible apply md_get_call hx rfl | wp_step))

theorem contains_call {tk : Tok} {R : Result → Shared → Prop} {es : Array (Int × Value)} {ep : Nat} {tb : SetTable} (hx : h.get? S = some { cls := .type "set", dict := none, data := .set es ep tb, slots := #[] })
    (hq : R (.ok (.ret (.ref h.objs.size))) ⟨h.push (boundIn S), g, d, t, os⟩) :
    codeAny (model prog w) A (.call (.builtin "set.__getattribute__") ⟨[.ref S, .str "__contains__" tk], []⟩) R ⟨h, g, d, t, os⟩ :=
  codeAny_call_builtin PySem.F.slot_set_getattribute.plain PySem.F.entry_set_ga (PySem.F.slot_set_getattribute.check _ _ _ _ _ _ _ _ (show (⟨h, g, d, t, os⟩ : Shared).TypeIs (.ref S) "set" from ⟨_, hx, rfl⟩) (PySem.F.args_set_getattribute_2 _ _) (contains_entry hx hq))

theorem attr_contains {expr : Bool} {Q : Value → Shared → Prop} {es : Array (Int × Value)} {ep : Nat} {tb : SetTable} (hx : h.get? S = some { cls := .type "set", dict := none, data := .set es ep tb, slots := #[] })
    (hq : Q (.ref h.objs.size) ⟨h.push (boundIn S), g, d, t + 1, os⟩) : wpAny (model prog w) A (getAttr (.ref S) "__contains__" expr) Q E ⟨h, g, d, t, os⟩ := by
  have hT : ∀ tk', (⟨h, g, d, tk', os⟩ : Shared).TypeIs (.ref S) "set" := fun _ => ⟨_, hx, rfl⟩
  have f2 := PySem.F.slot_set_getattribute.lookup
  have f3 := PySem.F.slot_set_getattribute.bind (.ref S)
  have f4 : (expr && onTheHeap (Value.builtin "set.__getattribute__")) = false := Bool.and_false _
  unfold getAttr getAttrBy
  repeat (any_goals (first | assumption | exact hT _ | ((with_reducible show codeAny _ _ (Code.call (Value.builtin "set.__getattribute__") _) _ _); refine contains_call hx ?_) | wp_step))
end
end Mine
end PartAT

section PartL7
open PySem PySem.W PyProof.Rows PySem.Spec PySem.Calls
set_option linter.unusedVariables false
set_option maxRecDepth 100000
set_option maxHeartbeats 4000000
namespace Mine
local macro_rules | `(tactic| ktr_enter) => `(tactic| (
  intro w base outer p loose mean mg mb s R C hH hE;
  obtain ⟨B, X, T⟩ := C;
  refine' enter B X T ?k6 ?k7 ?k8 ?k9 ?kB ?_ ?c2 ?c3 ?c4 ?c5;
  (case k6 => k_is); (case k7 => k_is); (case k8 => decide); (case k9 => exact BindsTo.of_eq rfl);
  (case kB => exact locs rfl); (case c2 => exact rfl); (case c3 => exact rfl); (case c4 => exact rfl); (case c5 => decide);
  intro L' h₁ hL' F' N'; (try dsimp only)))
theorem filled7 : (PySem.Challenge.rw_ij0006_01, hd.heap_39) = (PySem.Challenge.rw_ij0006_01, hd.heap_39) := by k_fill; rfl
theorem set_obj {prog : Program} {w : World} {h : Heap} {S : Addr} {f : Int → Bool} {n : Nat} (hS : h.SetOf (intKind prog w) S f n) : ∃ es ep tb, h.get? S = some { cls := .type "set", dict := none, data := .set es ep tb, slots := #[] } := by
  obtain ⟨o, es, ep, tb, ho, hex, hd, _⟩ := hS
  obtain ⟨c, dct, dat, sl⟩ := o
  obtain ⟨h1, h2, h3⟩ := hex
  simp only at h1 h2 h3 hd
  subst h1 h2 h3 hd
  exact ⟨es, ep, tb, ho⟩
/-- a filterfalse over the list a from place i on, its set told by p -/
structure IsFF (w : World) (h : Heap) (x it dx bm S a : Addr) (i : Nat) (p : Int → Bool) : Prop where
  inst : h.get? x = some { cls := .ref 61, dict := some dx, slots := #[some (.ref bm), some (.ref it)] }
  dct : h.get? dx = some (dictOf [] 0)
  iter : h.get? it = some { cls := .type "list_iterator", data := .fields #[.ref a, .int i 0] }
  bnd : h.get? bm = some (boundIn S)
  set : ∃ f n, h.SetOf (intKind prg w) S f n ∧ n < scanBound ∧ ∀ k, f k = p k
theorem setOf_at {prog : Program} {w : World} {h h' : Heap} {S : Addr} {f : Int → Bool} {n : Nat} (hS : h.SetOf (intKind prog w) S f n) (e : ∀ o, h.get? S = some o → h'.get? S = some o) : h'.SetOf (intKind prog w) S f n := by
  obtain ⟨o, es, ep, tb, ho, r⟩ := hS
  exact ⟨o, es, ep, tb, e _ ho, r⟩
theorem firstMet_mem (ns : List Int) (m : Nat) (hm : m = ns.length) (k : Int) : ((firstMet (fun i => ns.getD i 0) m).any fun x => x == k) = decide (k ∈ ns) := by
  subst hm
  rw [firstMet_any]
  have e : (List.range ns.length).map (fun i => ns.getD i 0) = ns := by
    apply List.ext_getElem
    · simp
    · intro i h1 h2
      simp [h2]
  rw [e]
  rw [Bool.eq_iff_iff, List.any_eq_true, decide_eq_true_eq]
  constructor
  · rintro ⟨x, hx, hq⟩
    rw [← eq_of_beq hq]; exact hx
  · intro hx
    exact ⟨k, hx, beq_self_eq_true k⟩

section
variable {prog : Program} {w : World} {A : Around} {E : Value → Shared → Prop} {s : Shared}
theorem iter_list {l : Addr} {items : Array Value} {Q : Value → Shared → Prop} (hl : s.heap.IsList l items)
    (h : Q (.ref s.heap.objs.size) { s with heap := s.heap.push { cls := .type "list_iterator", data := .fields #[.ref l, .int 0 0] } }) :
    wpAny (model prog w) A (call (.builtin "iter") [.ref l]) Q E s := by
  refine call_function_entry (by decide +kernel) (by decide +kernel) kdk_entry_iter (kdk_args_iter _) ?_
  unfold Builtin.«iter»
  refine wpAny_bind (m := someArgs "iter" 1 2 _) (wpAny_of_eq (a := [Value.ref l]) (by first | rfl | kernel_rfl!) ?_)
  show wpAny _ _ (pyIter (.ref l) >>= _) _ _ _
  refine wpAny_bind (wpAny_pyIter_list hl ?_)
  exact wpAny_pure ⟨_, rfl, h⟩
end
section
local macro_rules | `(tactic| walk_at "call builtin:iter") => `(tactic| (refine Stop.out ?_))
local macro_rules | `(tactic| walk_at "getAttr ref") => `(tactic| (refine Stop.out ?_))
local macro_rules | `(tactic| walk_at "call type:set cons nil") => `(tactic| (refine Stop.out ?_))
set_option pp.deepTerms false
set_option pp.maxSteps 3000
theorem diff_ctr (a b : Addr) (items : Array Value) (ws : List Value) (ns : List Int) (hw : IntsAre ws ns) (hlen : ns.length ≤ 1000) :
    Ctr 440 240 72 [.ref a, .ref b] (fun _ s => s.heap.IsList b ws.toArray ∧ s.heap.IsList a items)
    (fun w h h' v => ∃ x it dx bm S, v = .ref x ∧ IsFF w h' x it dx bm S a 0 (fun k => decide (k ∈ ns)) ∧ h.get? x = none ∧ h.get? it = none ∧ h.get? dx = none ∧ h.get? bm = none ∧ h.get? S = none ∧ it ≠ x ∧ it ≠ dx ∧ it ≠ bm ∧ it ≠ S) := by
  intro w base outer p loose mean mg mb s R C hH hE
  obtain ⟨B, X, T⟩ := C
  obtain ⟨hH, hA⟩ := hH
  refine' enter B X T ?k6 ?k7 ?k8 ?k9 ?kB ?_ ?c2 ?c3 ?c4 ?c5
  (case k6 => k_is); (case k7 => k_is); (case k8 => decide); (case k9 => exact BindsTo.of_eq rfl)
  (case kB => exact locs rfl); (case c2 => exact rfl); (case c3 => exact rfl); (case c4 => exact rfl); (case c5 => decide)
  intro L' h₁ hL' F' N'; (try dsimp only)
  k_fold
  k_steps
  refine Stop.on ?_
  (rename Fr _ _ _ _ => F1)
  have hl1 := hH.at (fun o e => F1.keep b o e)
  refine call_set_list (items := ws.toArray) (ns := ns) rfl ?_ hw (by have q := IntsAre.length hw; unfold scanBound; rw [List.size_toArray]; omega) ?_
  · exact hl1
  intro h2 tk2 hS st2
  have st2' : Heap.StaysIn _ h2 := fun b o e => st2 b o (Heap.lt_size e) e
  have F2 := Fr.grow F1 st2'
  have N2 := News.grow N' st2'
  dsimp only
  k_steps
  obtain ⟨es, ep, tb, hx⟩ := set_obj hS
  refine Stop.on ?_
  refine attr_contains hx ?_
  have hnS : h₁.get? h₁.objs.size = none := Heap.get?_none_of_le (Nat.le_refl _)
  have N2S := News.add F1 N' st2' hx hnS
  have st3 : h2.StaysIn (h2.push (boundIn h₁.objs.size)) := fun b o e => Heap.get?_push_of_some _ e
  have F3 := Fr.grow F2 st3
  have N3 := News.push F2 N2S (boundIn h₁.objs.size)
  clear F2 N2 N2S
  (try dsimp only)
  k_steps
  refine Stop.on ?_
  (rename Fr s.heap _ _ _ => FG)
  (rename Fr _ _ _ _ => F5)
  (rename News _ _ _ _ => N5)
  have hA5 := hA.at (fun o e => F5.keep _ _ (FG.keep _ _ e))
  refine iter_list hA5 ?_
  have F6 := F5.push { cls := .type "list_iterator", data := .fields #[.ref a, .int 0 0] }
  have q1 : h₁.objs.size < h2.objs.size := Heap.lt_size hx
  have q2 := ltN (Heap.lt_size (N5 _ (.head _)).1)
  have q3 := ltN q1
  dsimp only at q2 q3
  have N6 := News.push F5 N5 { cls := .type "list_iterator", data := .fields #[.ref a, .int 0 0] }
  (try dsimp only)
  k_steps
  (rename News s.heap _ _ _ => N9)
  have ws9 : ws.length = ns.length := IntsAre.length hw
  refine cend (by assumption) (by k_asm) ?_
  have m1 := N9 _ (.head _)
  have m2 := N9 _ (.tail _ (.head _))
  have m3 := N9 _ (.tail _ (.tail _ (.head _)))
  have m4 := N9 _ (.tail _ (.tail _ (.tail _ (.head _))))
  have m5 := N9 _ (.tail _ (.tail _ (.tail _ (.tail _ (.head _)))))
  dsimp only at m1 m2 m3 m4 m5
  refine ⟨_, _, _, _, _, rfl, ⟨m2.1, m3.1, m1.1, m4.1, _, _, setOf_at hS (fun o e => ?_), ?_, ?_⟩, m2.2.2, m1.2.2, m3.2.2, m4.2.2, m5.2.2, ?_, ?_, ?_, ?_⟩
  · dsimp only at hx e ⊢
    rw [hx] at e
    rw [← e]; exact m5.1
  · have q := firstMet_length_le (fun i => ns.getD i 0) ws.toArray.size
    rw [List.size_toArray] at q ⊢
    unfold scanBound
    omega
  · intro k
    exact firstMet_mem ns _ (by rw [List.size_toArray]; exact ws9) k
  all_goals (refine neN ?_; (try dsimp only); omega)
end
end Mine
end PartL7

section PartL8
open PySem PySem.W PyProof.Rows PySem.Spec PySem.Calls
set_option linter.unusedVariables false
set_option maxRecDepth 100000
set_option maxHeartbeats 4000000
namespace Mine
theorem filled8 : (PySem.Challenge.rw_ij0006_01, hd.heap_39) = (PySem.Challenge.rw_ij0006_01, hd.heap_39) := by k_fill; rfl
abbrev iterObj (a : Addr) (i : Nat) : Obj := { cls := .type "list_iterator", data := .fields #[.ref a, .int i 0] }
abbrev ffObj (dx bm it : Addr) : Obj := { cls := .ref 61, dict := some dx, slots := #[some (.ref bm), some (.ref it)] }
abbrev news5 (it x dx bm S a : Addr) (so : Obj) (i : Nat) : List (Addr × Obj) := [(it, iterObj a i), (x, ffObj dx bm it), (dx, dictOf [] 0), (bm, boundIn S), (S, so)]

section
variable {prog : Program} {w : World} {d u : Nat} {s : Shared} {base g : Heap} {outer : List Env} {K : Frag} {p : Program} {loose : List Str} {mean : ExcName → Option Value} {mg mb : Str → Option Value}
  {R : Result → Shared → Prop} {name qual : Str} {params : Arguments} {body : List Stmt} {scope : Scope} {dV kV doc pm cdv ct oc : Value} {an od : Option Addr} {osl : Array (Option Value)} {f : Addr} {args : Args} {binds : List (Str × Value)} {news : List (Addr × Obj)}

theorem enterG (B : Below (CA d u outer) base outer g) (X : K.In g) (T : Top p loose mean mg mb g) (st : g.StaysIn s.heap) (sz : g.objs.size ≤ s.heap.objs.size) (hN : ∀ q ∈ news, s.heap.get? q.1 = some q.2 ∧ g.get? q.1 = none)
    (ho : K.lookup f = some ⟨oc, od, .func (fnOf name qual params body scope dV kV doc pm an cdv ct), osl⟩) (hcd : codeIn K cdv qual = true) (hroom : d < recursionLimit)
    (hbind : BindsTo s (fnOf name qual params body scope dV kV doc pm an cdv ct) args binds) (hloc : ∀ y ∈ binds, scope.names.lookup y.1 = some .local)
    (h : ∀ L' h₁, L' = s.heap.objs.size → s.heap.StaysIn h₁ → Fr g L' h₁ (fun y => binds.reverse.lookup y) → News g L' h₁ news →
      wpAny (model prog w) ((CA d u outer).deeper (envOf qual scope L' f cdv)) (execs body (envOf qual scope L' f cdv))
        (fun fl s' => CEnd R (match fl with | .ret v => v | _ => .none) s')
        (fun e s' => wpAny (model prog w) ((CA d u outer).deeper (envOf qual scope L' f cdv)) (leaving (envOf qual scope L' f cdv) e) (fun _ s'' => R (.error e) s'') (fun e' s'' => R (.error e') s'') s')
        { s with heap := h₁, toks := s.toks + binds.length })
    (hco : scope.isCoroutine = false) (hgen : scope.isGenerator = false) (hk : scope.kind = .function)
    (hcell : ∀ x ∈ scope.names, x.2 ≠ .cell) : codeAny (model prog w) (CA d u outer) (.call (.ref f) args) R s :=
  codeAny_call_def (fd := fnOf name qual params body scope dV kV doc pm an cdv ct) (body := body) (binds := binds) hroom (st _ _ (X _ _ ho)) rfl (T.nolimit.keeps st) (codeRec_of (X.keeps st) hcd) rfl hbind hcell hloc
    (fun h₁ hns hk₁ => h _ h₁ rfl hk₁ ⟨hns, fun b o e => hk₁ _ _ (st _ _ e), sz⟩ (fun q hq => ⟨hk₁ _ _ (hN q hq).1, Nat.ne_of_lt (Heap.lt_size (hN q hq).1), (hN q hq).2⟩)) hco hgen hk
end

section
variable {prog : Program} {w : World} {A : Around} {E : Value → Shared → Prop} {s : Shared}
theorem next_item {it l : Addr} {i : Nat} {items : Array Value} {x : Value} {Q : Value → Shared → Prop} (ho : s.heap.get? it = some (iterObj l i))
    (hl : s.heap.IsList l items) (hx : items[i]? = some x)
    (hQ : ∀ h', h'.get? it = some (iterObj l (i + 1)) → Heap.SameBut it s.heap h' → Q x { s with heap := h' }) :
    wpAny (model prog w) A (call (.builtin "next") [.ref it]) Q E s := by
  have hit : s.heap.IsListIter it l i := ⟨_, ho, rfl, rfl⟩
  have hd : (iterObj l i).data = .fields #[.ref l, .int i 0] := rfl
  obtain ⟨ol, hol, _, nl, hdl⟩ := hl
  refine call_function_entry (by decide +kernel) (by decide +kernel) kdk_entry_next (kdk_args_next _) ?_
  unfold Builtin.«next»
  refine wpAny_bind (m := someArgs "next" 1 2 _) (wpAny_of_eq (a := [Value.ref it]) (by first | rfl | kernel_rfl!) ?_)
  dsimp only
  refine wpAny_bind (wpAny_specialOf (name := Str.ofString "__next__") hit.typeIs slot_listiter_next.lookup ?_)
  refine wpAny_ite_split (fun hab => absurd hab (by decide)) (fun _ => ?_)
  refine wpAny_bind (wpAny_callSpecial?_slot (name := Str.ofString "__next__") hit.typeIs slot_listiter_next
    (wpAny_call_entry slot_listiter_next hit.typeIs entry_listiter_next ?_ (args_listiter_next _)))
  show wpAny _ _ (field (.ref it) 0 >>= _) _ _ s
  refine wpAny_bind (wpAny_field ho hd (x := .ref l) rfl ?_)
  show wpAny _ _ (if (Value.ref l == Value.none) = true then _ else _) _ _ s
  rw [if_neg (show ¬ ((Value.ref l == Value.none) = true) from Bool.false_ne_true)]
  show wpAny _ _ (field (.ref it) 1 >>= _) _ _ s
  refine wpAny_bind (wpAny_field ho hd (x := .int i 0) rfl ?_)
  show wpAny _ _ (seqItems? (.ref l) >>= _) _ _ s
  refine wpAny_bind (wpAny_seqItems hol hdl ?_)
  simp only [Int.toNat_natCast, hx]
  refine wpAny_bind (wpAny_setField ho hd (by simp) (wpAny_pure ⟨x, rfl, wpAny_pure ⟨_, rfl, hQ _ ?_ (Heap.SameBut.update ..)⟩⟩))
  exact Heap.get?_update_self _ ho (Obj.isFreed_of_fields (Obj.data_mapFields hd _))

theorem next_end {it l : Addr} {i : Nat} {items : Array Value} {Q : Value → Shared → Prop} (hh : A.handled = none)
    (hit : s.heap.IsListIter it l i) (hl : s.heap.IsList l items) (hx : items[i]? = none)
    (hQ : ∀ h₁ h' e, Heap.SameBut it s.heap h₁ → Heap.MadeExc h₁ h' e "StopIteration" [] → E (.ref e) { s with heap := h' }) :
    wpAny (model prog w) A (call (.builtin "next") [.ref it]) Q E s := by
  obtain ⟨o, ho, hc, hd⟩ := id hit
  obtain ⟨ol, hol, _, nl, hdl⟩ := hl
  refine call_function_entry (by decide +kernel) (by decide +kernel) kdk_entry_next (kdk_args_next _) ?_
  unfold Builtin.«next»
  refine wpAny_bind (m := someArgs "next" 1 2 _) (wpAny_of_eq (a := [Value.ref it]) (by first | rfl | kernel_rfl!) ?_)
  dsimp only
  refine wpAny_bind (wpAny_specialOf (name := Str.ofString "__next__") hit.typeIs slot_listiter_next.lookup ?_)
  refine wpAny_ite_split (fun hab => absurd hab (by decide)) (fun _ => ?_)
  refine wpAny_bind (wpAny_callSpecial?_slot (name := Str.ofString "__next__") hit.typeIs slot_listiter_next
    (wpAny_call_entry slot_listiter_next hit.typeIs entry_listiter_next ?_ (args_listiter_next _)))
  show wpAny _ _ (field (.ref it) 0 >>= _) _ _ s
  refine wpAny_bind (wpAny_field ho hd (x := .ref l) rfl ?_)
  show wpAny _ _ (if (Value.ref l == Value.none) = true then _ else _) _ _ s
  rw [if_neg (show ¬ ((Value.ref l == Value.none) = true) from Bool.false_ne_true)]
  show wpAny _ _ (field (.ref it) 1 >>= _) _ _ s
  refine wpAny_bind (wpAny_field ho hd (x := .int i 0) rfl ?_)
  show wpAny _ _ (seqItems? (.ref l) >>= _) _ _ s
  refine wpAny_bind (wpAny_seqItems hol hdl ?_)
  simp only [Int.toNat_natCast, hx]
  refine wpAny_bind (wpAny_rule (wpAny_bind (wpAny_setField ho hd (by simp) ?_)))
  show wpAny _ _ (newExc (.type "StopIteration") [] >>= _) _ _ _
  refine wpAny_bind ?_
  simp only [newExc, newTuple]
  refine wpAny_bind (wpAny_newObj_type ?_ (by size_fits))
  refine wpAny_bind (m := firstArgMember _ _) (wpAny_of_eq (a := Value.none) (by first | rfl | (simp only [firstArgMember]; rfl)) ?_)
  refine wpAny_newObj_type ?_ (by size_fits)
  refine wpAny_raiseNew_none hh ?_
  refine hQ _ _ _ (Heap.SameBut.update (a := it) (f := Obj.mapFields (·.setIfInBounds 0 .none)) (h := s.heap)) ⟨fun b o hb => Heap.get?_push_of_some _ (Heap.get?_push_of_some _ hb), Heap.get?_none_of_le (by simp), _, ?_, Heap.get?_none_of_le (Nat.le_refl _), ?_⟩
  · exact Heap.get?_push_size _ rfl
  · exact Heap.get?_push_of_some _ (Heap.get?_push_size _ rfl)
end
end Mine
end PartL8

section PartL9
open PySem PySem.W PyProof.Rows PySem.Spec PySem.Calls
set_option linter.unusedVariables false
set_option maxRecDepth 100000
set_option maxHeartbeats 4000000
namespace Mine
theorem kind_contains : builtinKind "set.__contains__" = some .method := by first | kernel_rfl | decide +kernel
theorem check_bound_contains (a b : Value) : ∃ sig, Manifest.signature? "set.__contains__" = some sig ∧ Bind.checkArgs "set.__contains__" { sig with full := s!"{Bind.lastOf "set"}.{Bind.lastOf "set.__contains__"}" } ⟨[a, b], []⟩ = pure () := by
  refine ⟨_, by first | rfl | kernel_rfl, by kernel_rfl⟩
theorem no_varargs : Manifest.varargsMethods.contains "set.__contains__" = false := by decide +kernel
theorem set_no_module : isSubtype (.type "set") (.type "module") = pure false := by rw [isSubtype_type]; kernel_rfl
theorem set_no_type : isSubtype (.type "set") (.type "type") = pure false := by rw [isSubtype_type]; kernel_rfl

section
variable {prog : Program} {w : World} {A : Around} {E : Value → Shared → Prop} {s : Shared} {S bm : Addr} {k : Int} {t : Tok}
theorem check_run {v : Value} {Q : Unit → Shared → Prop} {f : Int → Bool} {n : Nat} (hS' : s.heap.SetOf (intKind prog w) S f n) (h : Q () s) :
    wpAny (model prog w) A (checkBoundCall "set.__contains__" ⟨[.ref S, v], []⟩) Q E s := by
  obtain ⟨es, ep, tb, hx⟩ := set_obj hS'
  have hS := hS'.typeIs
  obtain ⟨sig, e1, e2⟩ := check_bound_contains (.ref S) v
  unfold checkBoundCall
  rw [e1, kind_contains]
  dsimp only
  refine wpAny_ite_split (fun hab => absurd hab (by decide)) (fun _ => ?_)
  refine wpAny_bind (wpAny_isInstance hS set_no_module ?_)
  rw [no_varargs]
  (try dsimp only)
  refine wpAny_ite_split (fun hab => absurd hab (by decide)) (fun _ => ?_)
  refine wpAny_bind ?_
  simp only [isType, loadHead]
  refine wpAny_bind (wpAny_loadPart hx ?_)
  refine wpAny_pure ?_
  (try dsimp only)
  refine wpAny_ite_split (fun hab => absurd hab (by decide)) (fun _ => ?_)
  refine wpAny_bind (wpAny_typeOf hS ?_)
  dsimp only
  rw [e2]
  exact wpAny_pure h

theorem contains_builtin {f : Int → Bool} {n : Nat} {R : Result → Shared → Prop} (hS : s.heap.SetOf (intKind prog w) S f n)
    (h : R (.ok (.ret (.bool (f k)))) { s with toks := s.toks + 1 }) :
    codeAny (model prog w) A (.builtin "set.__contains__" ⟨[.ref S, .int k t], []⟩) R s := by
  refine codeAny_builtin entry_set_contains ?_
  unfold Builtin.«frozenset.__contains__» Builtin.Frozenset.oneOther
  simp only [List.isEmpty_nil, bind_assoc]
  unfold Builtin.Frozenset.addrOf Builtin.Frozenset.withSetAsKey setContains
  refine wpAny_bind (wpAny_pure ?_)
  try dsimp only
  refine wpAny_bind (wpAny_pure ?_)
  try dsimp only
  have hkey : (intKind prog w).is k (.int k t) = true := by first | exact Value.isInt_int | simp [intKind, Value.isInt] | decide
  have hsc : (Value.int k t).scannable = true := rfl
  refine wpAny_bind (wpAny_tryCatch ?_)
  refine wpAny_holding ?_
  refine wpAny_bind ((intKind prog w).pyHash hkey ?_)
  refine wpAny_bind (wpAny_setFind_of (s := { s with toks := s.toks + 1 }) hkey hsc hS fun r hr => ?_)
  refine wpAny_pure ?_
  show wpAny _ _ (ret (Value.bool r.isSome)) _ _ _
  rw [hr]
  exact wpAny_pure h

theorem bound_call {f : Int → Bool} {n : Nat} {Q : Value → Shared → Prop} (hb : s.heap.get? bm = some (boundIn S)) (hS : s.heap.SetOf (intKind prog w) S f n)
    (h : Q (.bool (f k)) { s with toks := s.toks + 1 }) : wpAny (model prog w) A (call (.ref bm) [.int k t]) Q E s := by
  refine wpAny_call (codeAny_of_tree ?_)
  show wpAny _ _ (callAny (.ref bm) ⟨[.int k t], []⟩) _ _ s
  simp only [callAny]
  refine wpAny_bind (wpAny_load hb ?_)
  dsimp only
  refine wpAny_ite_split (fun _ => ?_) (fun hab => absurd (by decide) hab)
  show wpAny _ _ ((if (Value.type "builtin_function_or_method" != Value.type "method") = true then _ else _)) _ _ _
  refine wpAny_ite_split (fun _ => ?_) (fun hab => absurd (by decide) hab)
  refine wpAny_bind (check_run hS ?_)
  exact wpAny_pure ⟨plainId_quiet (id := "set.__contains__") (by decide +kernel) _, contains_builtin hS h⟩
end
end Mine
end PartL9

section PartL10
open PySem PySem.W PyProof.Rows PySem.Spec PySem.Calls
set_option linter.unusedVariables false
set_option maxRecDepth 100000
set_option maxHeartbeats 4000000
namespace Mine
theorem filled10 : (PySem.Challenge.rw_ij0006_01, hd.heap_39) = (PySem.Challenge.rw_ij0006_01, hd.heap_39) := by k_fill; rfl
section
variable {M : Model} {A : Around} {E : Value → Shared → Prop} {s : Shared} {S : Addr}
theorem callWith_fields9 {pos : Pos} {u : Addr} {first : List Value} {args : List (Bool × Sem Value)} {Q : Value → Shared → Prop} (hplain : args.any (·.1) = false)
    (h : wpAny M A (evalArgs (.ref u) true args []) (fun x s₁ => s₁.heap.get? u = some (boundIn S) ∧ wpAny M A (call (.ref u) (first ++ x.pos) x.kw) Q E s₁) E s) : wpAny M A (callWith pos (.ref u) first args []) Q E s := by
  unfold callWith
  refine wpAny_bind (wpAny_holding (wpAny_mono h (fun x s₁ h₁ => wpAny_bind (wpAny_standAt ?_)) fun _ _ x => x))
  obtain ⟨ho, hcall⟩ := h₁
  simp only [hplain, List.any_nil, Bool.or_false]
  refine wpAny_bind (m := keeperOf (.ref u)) ?_
  unfold keeperOf
  refine wpAny_bind (wpAny_load ho ?_)
  simp only [boundIn, show (Value.type "builtin_function_or_method" != Value.type "method") = true by decide, show (Value.type "builtin_function_or_method" == Value.type "builtin_function_or_method" || Value.type "builtin_function_or_method" == Value.type "method-wrapper") = true by decide, if_true]
  refine wpAny_pure ?_
  exact wpAny_bind (wpAny_mono hcall (fun r s₂ hr => wpAny_bind (wpAny_holding (wpAny_point (wpAny_pure hr)))) fun _ _ x => x)
theorem callWith_bound9 (S : Addr) {pos : Pos} {u : Addr} {first : List Value} {env : Env} {e : Expr} {rest : List Expr} {Q : Value → Shared → Prop}
    (h : wpAny M A (spliced (backTo pos (starEach (e :: rest) env))) (fun vs s₁ => s₁.heap.get? u = some (boundIn S) ∧ wpAny M A (call (.ref u) (first ++ vs)) Q E s₁) E s)
    (he : starEach (e :: rest) env = (false, eval e env) :: starEach rest env) (hplain : (backTo pos (starEach rest env)).any (·.1) = false) :
    wpAny M A (callWith pos (.ref u) first (backTo pos (starEach (e :: rest) env)) []) Q E s := by
  rw [he] at h ⊢
  refine callWith_fields9 (S := S) (by show (false || (backTo pos (starEach rest env)).any (·.1)) = false; rw [hplain]; rfl) ?_
  exact evalArgs_plain h
end
section
variable {w : World} {d u : Nat} {s : Shared} {base g : Heap} {outer : List Env} {p : Program} {loose : List Str} {mean : ExcName → Option Value} {mg mb : Str → Option Value} {R : Result → Shared → Prop}
local macro_rules | `(tactic| walk_at "exec While") => `(tactic| (refine Stop.out ?_))
local macro_rules | `(tactic| walk_at "call builtin:next") => `(tactic| (refine Stop.out ?_))
local macro_rules | `(tactic| walk_at "callWith ref") => `(tactic| (refine Stop.out ?_))
local macro_rules | `(tactic| walk_at "And") => `(tactic| (refine Stop.out ?_))
set_option pp.deepTerms false
set_option pp.maxSteps 3000
theorem next_run (B : Below (CA 430 230 outer) base outer g) (X : (hd.heap_39 w.params).In g) (T : Top p loose mean mg mb g) (st : g.StaysIn s.heap) (sz : g.objs.size ≤ s.heap.objs.size)
    {it x dx bm S a : Addr} {so : Obj} {i : Nat} {items : Array Value} {ns : List Int} {P : Int → Bool}
    (hN : ∀ q ∈ news5 it x dx bm S a so i, s.heap.get? q.1 = some q.2 ∧ g.get? q.1 = none) (hne : it ≠ x ∧ it ≠ dx ∧ it ≠ bm ∧ it ≠ S)
    (hi : i ≤ items.size) (hA : g.IsList a items) (hI : IntsAre items.toList ns) (hS : ∃ f n, (∀ h : Heap, h.get? S = some so → h.SetOf (intKind prg w) S f n) ∧ n < scanBound ∧ ∀ k, f k = P k)
    (hR : ∀ j k t h' tk', i ≤ j → items[j]? = some (.int k t) → ns[j]? = some k → P k = false → (∀ l, i ≤ l → l < j → ∀ k', ns[l]? = some k' → P k' = true) → g.StaysIn h' → (∀ q ∈ news5 it x dx bm S a so (j + 1), h'.get? q.1 = some q.2) →
      R (.ok (.ret (.int k t))) { s with heap := h', toks := tk' })
    (hE : ∀ e t h' tk', (∀ l, i ≤ l → l < items.size → ∀ k', ns[l]? = some k' → P k' = true) →
      RaisedS base g outer e (.type "StopIteration") t [] [(x, ffObj dx bm it), (dx, dictOf [] 0), (bm, boundIn S), (S, so)] h' → g.UpToSlots h' → R (.error (.ref e)) { s with heap := h', toks := tk' }) :
    codeAny (model prg w) (CA 430 230 outer) (.call (.ref 57) ⟨[.ref x], []⟩) R s := by
  refine' enterG B X T st sz hN ?k6 ?k7 ?k8 ?k9 ?kB ?_ ?c2 ?c3 ?c4 ?c5
  (case k6 => k_is); (case k7 => k_is); (case k8 => decide); (case k9 => exact BindsTo.of_eq rfl)
  (case kB => exact locs rfl); (case c2 => exact rfl); (case c3 => exact rfl); (case c4 => exact rfl); (case c5 => decide)
  intro L' h₁ hL' st' F' N'; (try dsimp only)
  k_fold
  k_steps
  refine Stop.on ?_
  (rename Fr _ _ _ _ => F1)
  (rename News _ _ _ _ => N1)
  have hlen : ns.length = items.size := by rw [← IntsAre.length hI, Array.length_toList]
  refine While_inv2 (n₀ := items.size + 1 - i) (fun n m' news' => ∃ ik, n = items.size + 1 - ik ∧ ik ≤ items.size ∧ i ≤ ik ∧ news' = news5 it x dx bm S a so ik ∧ m' "func" = some (.ref bm) ∧ m' "self" = some (.ref x) ∧ ∀ l, i ≤ l → l < ik → ∀ k, ns[l]? = some k → P k = true) F1 N1 ?_ ?_
  · exact ⟨i, rfl, hi, Nat.le_refl _, rfl, rfl, rfl, fun l h1 h2 => absurd h2 (Nat.not_lt.mpr h1)⟩
  · rintro n m' news' h2 tk2 F N ⟨ik, rfl, hik, hii, rfl, hmf, hms, hall⟩
    clear F1 N1
    have F1 := fr_know "func" F (v := .ref bm) hmf
    have F2 := fr_know "self" F1 (v := .ref x) (by rw [if_neg (by decide)]; exact hms)
    clear F1 F
    dsimp only
    k_steps
    refine Stop.on ?_
    have hA2 := hA.at (fun o e => F2.keep a o e)
    rcases Nat.lt_or_ge ik items.size with hlt | hge
    · obtain ⟨v, hv⟩ : ∃ v, items[ik]? = some v := ⟨_, Array.getElem?_eq_getElem hlt⟩
      obtain ⟨k, t, hk, rfl⟩ := IntsAre.at9 hI (by rw [Array.getElem?_toList]; exact hv)
      have hm := N _ (.head _)
      refine next_item hm.1 hA2 hv ?_
      intro h3 hit3 hsb3
      have F3 := F2.change hsb3 hm.2.1 hm.2.2
      have N3 : News g L' h3 (news5 it x dx bm S a so (ik + 1)) := News.setIn (own := []) N (fun _ q => nomatch q) (fun p hp => by
        rcases List.mem_cons.mp hp with rfl | hp
        · exact hne.1.symm
        rcases List.mem_cons.mp hp with rfl | hp
        · exact hne.2.1.symm
        rcases List.mem_cons.mp hp with rfl | hp
        · exact hne.2.2.1.symm
        rw [List.mem_singleton.mp hp]
        exact hne.2.2.2.symm) hsb3 hit3
      clear hm N F2 hA2
      dsimp only
      k_steps
      refine Stop.on ?_
      refine callWith_bound9 S ?_ rfl rfl
      k_steps
      refine Stop.on ?_
      obtain ⟨f, n9, hSO, hn9, hfP⟩ := hS
      (rename News _ _ _ _ => N5)
      have hb5 := (N5 _ (.tail _ (.tail _ (.tail _ (.head _))))).1
      have hs5 := (N5 _ (.tail _ (.tail _ (.tail _ (.tail _ (.head _)))))).1
      refine And.intro hb5 (bound_call hb5 (hSO _ hs5) ?_)
      rw [hfP]
      cases hPk : P k with
      | true =>
        dsimp only
        k_steps
        exact ⟨_, _, _, _, items.size + 1 - (ik + 1), rfl, by assumption, N5, by omega, ik + 1, rfl, hlt, by omega, rfl, rfl, rfl, fun l h1 h2 k' hk' => by
          rcases Nat.lt_or_ge l ik with h4 | h4
          · exact hall l h1 h4 k' hk'
          · have e : l = ik := by omega
            subst e
            rw [hk] at hk'
            rw [← Option.some.inj hk']; exact hPk⟩
      | false =>
        dsimp only
        k_steps
        (rename Fr _ _ _ _ => F6)
        exact hR ik k t _ _ hii hv hk hPk hall F6.keep (fun q hq => (N5 q hq).1)
    · have hm := N _ (.head _)
      refine next_end rfl ⟨_, hm.1, rfl, rfl⟩ hA2 (Array.getElem?_eq_none hge) ?_
      intro h3 h4 e hsb hmade
      have F3 := F2.change hsb hm.2.1 hm.2.2
      have N3 : News g L' h3 [(x, ffObj dx bm it), (dx, dictOf [] 0), (bm, boundIn S), (S, so)] := fun p hp => by
        refine ⟨(hsb.2 _ ?_).trans (N p (.tail _ hp)).1, (N p (.tail _ hp)).2⟩
        rcases List.mem_cons.mp hp with rfl | hp
        · exact hne.1.symm
        rcases List.mem_cons.mp hp with rfl | hp
        · exact hne.2.1.symm
        rcases List.mem_cons.mp hp with rfl | hp
        · exact hne.2.2.1.symm
        rw [List.mem_singleton.mp hp]
        exact hne.2.2.2.symm
      refine leave_raiseS B hmade.of F3 N3 (fun h5 t hS1 _ hup => ?_) rfl
      exact hE e t h5 _ (fun l h1 h2 k' hk' => hall l h1 (by omega) k' hk') hS1 hup
end
end Mine
end PartL10

section PartL11
open PySem PySem.W PyProof.Rows PySem.Spec PySem.Calls
set_option linter.unusedVariables false
set_option maxRecDepth 100000
set_option maxHeartbeats 4000000
namespace Mine
theorem filled11 : (PySem.Challenge.rw_ij0006_01, hd.heap_39) = (PySem.Challenge.rw_ij0006_01, hd.heap_39) := by k_fill; rfl
local macro_rules | `(tactic| ktr_enter) => `(tactic| (
  intro w base outer p loose mean mg mb s R C hH hE;
  obtain ⟨B, X, T⟩ := C;
  refine' enter B X T ?k6 ?k7 ?k8 ?k9 ?kB ?_ ?c2 ?c3 ?c4 ?c5;
  (case k6 => k_is); (case k7 => k_is); (case k8 => decide); (case k9 => exact BindsTo.of_eq rfl);
  (case kB => exact locs rfl); (case c2 => exact rfl); (case c3 => exact rfl); (case c4 => exact rfl); (case c5 => decide);
  intro L' h₁ hL' F' N'; (try dsimp only)))
theorem iter_ctr (x : Addr) : Ctr 430 230 50 [.ref x] (fun _ _ => True) (fun _ _ _ v => v = .ref x) := by
  intro w base outer p loose mean mg mb s R C hH hE
  obtain ⟨B, X, T⟩ := C
  refine' enter B X T ?k6 ?k7 ?k8 ?k9 ?kB ?_ ?c2 ?c3 ?c4 ?c5
  (case k6 => k_is); (case k7 => k_is); (case k8 => decide); (case k9 => exact BindsTo.of_eq rfl)
  (case kB => exact locs rfl); (case c2 => exact rfl); (case c3 => exact rfl); (case c4 => exact rfl); (case c5 => decide)
  intro L' h₁ hL' F' N'; (try dsimp only)
  k_fold
  k_steps
  exact cend (by assumption) (by k_asm) rfl

theorem ff_next (w : World) : findIn (hd.heap_39 w.params) (.ref 61) "__next__" = some (some (.ref 57)) := by k_is
theorem ff_iter (w : World) : findIn (hd.heap_39 w.params) (.ref 61) "__iter__" = some (some (.ref 50)) := by k_is
theorem ff_len (w : World) : findIn (hd.heap_39 w.params) (.ref 61) "__len__" = some none := by k_is
theorem ff_hint (w : World) : findIn (hd.heap_39 w.params) (.ref 61) "__length_hint__" = some none := by k_is
theorem fn_57 (w : World) : isFn (hd.heap_39 w.params) (.ref 57) = true := by k_is
theorem fn_50 (w : World) : isFn (hd.heap_39 w.params) (.ref 50) = true := by k_is

theorem seek_item {ns : List Int} {P : Int → Bool} {j : Nat} {k : Int} (hj : ns[j]? = some k) (hP : P k = false) : ∀ (n i : Nat), j - i = n → i ≤ j → (∀ l, i ≤ l → l < j → ∀ k', ns[l]? = some k' → P k' = true) →
    (ns.drop i).filter (fun k => !P k) = k :: (ns.drop (j + 1)).filter (fun k => !P k) := by
  intro n
  induction n with
  | zero =>
    intro i hn hij hall
    have e : i = j := by omega
    subst e
    obtain ⟨hlt, hv⟩ := List.getElem?_eq_some_iff.mp hj
    rw [List.drop_eq_getElem_cons hlt, hv, List.filter_cons, if_pos (by rw [hP]; rfl)]
  | succ n ih =>
    intro i hn hij hall
    obtain ⟨hlt, hv⟩ := List.getElem?_eq_some_iff.mp hj
    have hi : i < ns.length := by omega
    rw [List.drop_eq_getElem_cons hi, List.filter_cons, if_neg (by rw [hall i (Nat.le_refl _) (by omega) ns[i] (List.getElem?_eq_getElem hi)]; decide)]
    exact ih (i + 1) (by omega) (by omega) fun l h1 h2 => hall l (by omega) h2
theorem seek_end {ns : List Int} {P : Int → Bool} {m : Nat} (hm : ns.length = m) {i : Nat} (hall : ∀ l, i ≤ l → l < m → ∀ k', ns[l]? = some k' → P k' = true) : (ns.drop i).filter (fun k => !P k) = [] := by
  rw [List.filter_eq_nil_iff]
  intro a ha
  obtain ⟨l, hl⟩ := List.mem_iff_getElem?.mp ha
  rw [List.getElem?_drop] at hl
  obtain ⟨hlt, _⟩ := List.getElem?_eq_some_iff.mp hl
  rw [hall (i + l) (by omega) (by omega) a hl]
  decide

def framesOf (fr : List Env) : List Addr := fr.filterMap (·.frame)

/-- what stands around a filterfalse and does not change -/
structure FFS (w : World) (base : Heap) (fr : List Env) (p : Program) (loose : List Str) (mean : ExcName → Option Value) (mg mb : Str → Option Value) (it x dx bm S a : Addr) (so : Obj) (items : Array Value) (ns : List Int) (P : Int → Bool) : Prop where
  XB : (hd.heap_39 w.params).In base
  TB : Top p loose mean mg mb base
  hI : IntsAre items.toList ns
  ne : it ≠ x ∧ it ≠ dx ∧ it ≠ bm ∧ it ≠ S
  ab : a ≠ it ∧ a ≠ x ∧ a ≠ dx ∧ a ≠ bm ∧ a ≠ S
  fresh : ∀ b ∈ [it, x, dx, bm, S], base.get? b = none
  nfr : ∀ env ∈ fr, ∀ b ∈ [it, x, dx, bm, S], env.frame ≠ some b
  hS : ∃ f n, (∀ h : Heap, h.get? S = some so → h.SetOf (intKind prg w) S f n) ∧ n < scanBound ∧ ∀ k, f k = P k

/-- the heap where the iterator stands at i -/
structure FFD (base : Heap) (fr : List Env) (it x dx bm S a : Addr) (so : Obj) (items : Array Value) (i : Nat) (h : Heap) : Prop where
  stays : base.StaysIn h
  frames : h.FunFrames base fr
  five : ∀ q ∈ news5 it x dx bm S a so i, h.get? q.1 = some q.2
  list : h.IsList a items
  top : ∃ h₀ L m, base.StaysIn h₀ ∧ h₀.StaysIn base ∧ L ∈ framesOf fr ∧ Fr h₀ L h m

section
variable {w : World} {s : Shared} {base : Heap} {fr : List Env} {p : Program} {loose : List Str} {mean : ExcName → Option Value} {mg mb : Str → Option Value} {it x dx bm S a : Addr} {so : Obj} {items : Array Value} {ns : List Int} {P : Int → Bool}
  {dd uu : Nat} {gd : Option (List Code)} {E : Value → Shared → Prop}
theorem ff_turn (FS : FFS w base fr p loose mean mg mb it x dx bm S a so items ns P) {i : Nat} (hi : i ≤ items.size) (FD : FFD base fr it x dx bm S a so items i s.heap) (hdd : dd ≤ 430) (huu : uu ≤ 230) {Q : Option Value → Shared → Prop}
    (hR : ∀ j k t h' tk', i ≤ j → items[j]? = some (.int k t) → ns[j]? = some k → P k = false → (∀ l, i ≤ l → l < j → ∀ k', ns[l]? = some k' → P k' = true) → (∀ b o, b ≠ it → s.heap.get? b = some o → h'.get? b = some o) →
      h'.get? it = some (iterObj a (j + 1)) → Q (some (.int k t)) { s with heap := h', toks := tk' })
    (hE : ∀ h' tk', (∀ l, i ≤ l → l < items.size → ∀ k', ns[l]? = some k' → P k' = true) → (∀ b o, b ≠ it → b ∉ framesOf fr → s.heap.get? b = some o → h'.get? b = some o) →
      (∀ b o, b ∈ framesOf fr → s.heap.get? b = some o → ∃ sl, h'.get? b = some { o with slots := sl }) → Q none { s with heap := h', toks := tk' }) :
    wpAny (model prg w) { handled := none, depth := dd, frames := some fr, guards := gd, units := uu } (pyNext (.ref x)) Q E s := by
  have hx := FD.five _ (.tail _ (.head _))
  have hdx := FD.five _ (.tail _ (.tail _ (.head _)))
  have I : InstAt s.heap x (ffObj dx bm it) 61 (some (dictOf [] 0)) := ⟨hx, rfl, rfl, hdx⟩
  obtain ⟨h₀, L₀, m₀, t1, _, _, F₀⟩ := FD.top
  refine owit_next F₀ (FS.XB.keeps t1) I (ff_next w) (fn_57 w) (wpAny_call (codeAny_le ?_ hdd huu))
  have st5 : base.StaysIn (hideAll s.heap [it, x, dx, bm, S]) := fun b o e => hideAll_get _ (FD.stays b o e) fun hm => by rw [FS.fresh b hm] at e; cases e
  have B : Below (CA 430 230 fr) base fr (hideAll s.heap [it, x, dx, bm, S]) := ⟨rfl, st5, funFrames_hideAll FD.frames fun env he b hb => FS.nfr env he b hb⟩
  refine next_run (i := i) B (FS.XB.keeps st5) (FS.TB.keeps st5) (fun b o e => of_hideAll _ e) (Nat.le_of_eq (hideAll_size _ _)) (it := it) (x := x) (dx := dx) (bm := bm) (S := S) (a := a) (so := so) (items := items) (ns := ns) (P := P)
    (fun q hq => ⟨FD.five q hq, hideAll_none _ ?_⟩) FS.ne hi (FD.list.at fun o e => hideAll_get _ e ?_) FS.hI FS.hS ?_ ?_
  · simp only [news5, List.mem_cons, List.not_mem_nil, or_false] at hq ⊢
    rcases hq with rfl | rfl | rfl | rfl | rfl <;> simp
  · have := FS.ab
    simp only [List.mem_cons, List.not_mem_nil, or_false, not_or]
    exact this
  · intro j k t h' tk' h1 h2 h3 h4 h5 h6 h7
    refine hR j k t h' tk' h1 h2 h3 h4 h5 (fun b o hb e => ?_) (h7 _ (.head _))
    by_cases hm : b ∈ [it, x, dx, bm, S]
    · have hb7 : ∀ q ∈ news5 it x dx bm S a so i, q.1 = b → h'.get? b = some q.2 := by
        intro q hq eq
        rcases List.mem_cons.mp hq with rfl | hq
        · exact absurd eq.symm hb
        · rw [← eq]; exact h7 q (.tail _ hq)
      have : ∃ q ∈ news5 it x dx bm S a so i, q.1 = b := by
        simp only [List.mem_cons, List.not_mem_nil, or_false] at hm
        rcases hm with rfl | rfl | rfl | rfl | rfl
        · exact ⟨_, .head _, rfl⟩
        · exact ⟨_, .tail _ (.head _), rfl⟩
        · exact ⟨_, .tail _ (.tail _ (.head _)), rfl⟩
        · exact ⟨_, .tail _ (.tail _ (.tail _ (.head _))), rfl⟩
        · exact ⟨_, .tail _ (.tail _ (.tail _ (.tail _ (.head _)))), rfl⟩
      obtain ⟨q, hq, eq⟩ := this
      have e2 := FD.five q hq
      rw [eq, e] at e2
      rw [hb7 q hq eq, ← e2]
    · exact h6 b o (hideAll_get _ e hm)
  · intro e t h' tk' hall hS1 hup
    obtain ⟨⟨Bq, hB, hBG, hl, hfl, hnew⟩, htup⟩ := hS1
    obtain ⟨ob, hob, hobc⟩ := hfl.there
    show OwitStop _ _ _ _ _ _
    unfold OwitStop
    refine wpAny_isInstance (T := "StopIteration") (b := true) (show ∃ o, h'.get? e = some o ∧ o.cls = .type "StopIteration" from ⟨ob, hob, hobc⟩) isSubtype_stop ?_
    rw [if_pos rfl]
    refine hE h' tk' hall (fun b o hb hf e1 => ?_) (fun b o hb e1 => ?_)
    · by_cases hm : b ∈ [x, dx, bm, S]
      · have : ∃ q ∈ [(x, ffObj dx bm it), (dx, dictOf [] 0), (bm, boundIn S), (S, so)], q.1 = b := by
          simp only [List.mem_cons, List.not_mem_nil, or_false] at hm
          rcases hm with rfl | rfl | rfl | rfl
          · exact ⟨_, .head _, rfl⟩
          · exact ⟨_, .tail _ (.head _), rfl⟩
          · exact ⟨_, .tail _ (.tail _ (.head _)), rfl⟩
          · exact ⟨_, .tail _ (.tail _ (.tail _ (.head _))), rfl⟩
        obtain ⟨q, hq, eq⟩ := this
        have e2 := FD.five q (.tail _ hq)
        rw [eq, e1] at e2
        rw [← eq, hfl.1 _ _ (hl q hq).1, ← e2]
      · exact hfl.1 _ _ (hBG b o (hideAll_get _ e1 fun h => by
          rcases List.mem_cons.mp h with h | h
          · exact hb h
          · exact hm h) hf)
    · obtain ⟨env, he, hbf⟩ := List.mem_filterMap.mp hb
      obtain ⟨_, o', ho', hd⟩ := FD.frames.mem hb
      rw [e1] at ho'
      cases ho'
      exact hup b o (hideAll_get _ e1 fun h => FS.nfr env he b h hbf) hd
end
end Mine
end PartL11

section PartL12
open PySem PySem.W PyProof.Rows PySem.Spec PySem.Calls
set_option linter.unusedVariables false
set_option maxRecDepth 100000
set_option maxHeartbeats 4000000
namespace Mine
theorem filled12 : (PySem.Challenge.rw_ij0006_01, hd.heap_39) = (PySem.Challenge.rw_ij0006_01, hd.heap_39) := by k_fill; rfl
section
variable {w : World} {s : Shared} {base : Heap} {fr : List Env} {p : Program} {loose : List Str} {mean : ExcName → Option Value} {mg mb : Str → Option Value} {it x dx bm S a : Addr} {so : Obj} {items : Array Value} {ns : List Int} {P : Int → Bool}
  {dd uu : Nat} {gd : Option (List Code)} {E : Value → Shared → Prop}

/-- what is left where the filterfalse has been drawn to its end -/
def FFLeft (fr : List Env) (it : Addr) (also : Addr → Prop) (h h' : Heap) : Prop :=
  (∀ b o, b ≠ it → ¬ also b → b ∉ framesOf fr → h.get? b = some o → h'.get? b = some o) ∧ (∀ b o, b ∈ framesOf fr → h.get? b = some o → ∃ sl, h'.get? b = some { o with slots := sl })

theorem frames_move {base h h' : Heap} : ∀ {l : List Env}, h.FunFrames base l → (∀ env ∈ l, ∀ b o, env.frame = some b → h.get? b = some o → ∃ sl, h'.get? b = some { o with slots := sl }) → h'.FunFrames base l
  | [], _, _ => trivial
  | env :: _, ⟨hk, ⟨L, o, hf, hn, ho, hd⟩, hr⟩, hne => by
    obtain ⟨sl, hs⟩ := hne env (.head _) L o hf ho
    exact ⟨hk, ⟨L, _, hf, hn, hs, hd⟩, frames_move hr fun e he => hne e (.tail _ he)⟩
theorem FFD.move {i j : Nat} {h h' : Heap} (FS : FFS w base fr p loose mean mg mb it x dx bm S a so items ns P) (FD : FFD base fr it x dx bm S a so items i h) (D : Addr) (hD : base.get? D = none) (hDf : D ∉ framesOf fr) (hD5 : D ∉ [x, dx, bm, S]) (hDa : a ≠ D)
    (hk : ∀ b o, b ≠ it → b ≠ D → h.get? b = some o → h'.get? b = some o) (hit : h'.get? it = some (iterObj a j)) : FFD base fr it x dx bm S a so items j h' where
  stays := fun b o e => hk b o (fun q => by rw [q, FS.fresh it (.head _)] at e; cases e) (fun q => by rw [q, hD] at e; cases e) (FD.stays b o e)
  frames := frames_move FD.frames fun env he b o hb e => by
    refine ⟨o.slots, hk b o ?_ ?_ e⟩
    · intro q; exact FS.nfr env he it (.head _) (q ▸ hb)
    · intro q; exact hDf (List.mem_filterMap.mpr ⟨env, he, q ▸ hb⟩)
  five := fun q hq => by
    rcases List.mem_cons.mp hq with rfl | hq
    · exact hit
    · have hm : q.1 ∈ [x, dx, bm, S] := by
        simp only [List.mem_cons, List.not_mem_nil, or_false] at hq ⊢
        rcases hq with rfl | rfl | rfl | rfl <;> simp
      refine hk _ _ (fun e => ?_) (fun e => hD5 (e ▸ hm)) (FD.five q (.tail _ hq))
      rw [e] at hm
      have := FS.ne
      simp only [List.mem_cons, List.not_mem_nil, or_false] at hm
      rcases hm with h | h | h | h
      · exact this.1 h
      · exact this.2.1 h
      · exact this.2.2.1 h
      · exact this.2.2.2 h
  list := FD.list.at fun o e => hk a o FS.ab.1 hDa e
  top := by
    obtain ⟨h₀, L, m, t1, t2, t3, F⟩ := FD.top
    obtain ⟨o, es, ep, ho, hd⟩ := F.ns
    have hL : L ≠ it := fun q => by
      obtain ⟨env, he, hf⟩ := List.mem_filterMap.mp t3
      exact FS.nfr env he it (.head _) (q ▸ hf)
    exact ⟨h₀, L, m, t1, t2, t3, ⟨o, es, ep, hk L o hL (fun q => hDf (q ▸ t3)) ho, hd⟩,
      fun b o e => hk b o (fun q => by have e2 := t2 b o e; rw [q, FS.fresh it (.head _)] at e2; cases e2) (fun q => by have e2 := t2 b o e; rw [q, hD] at e2; cases e2) (F.keep b o e), F.above⟩

theorem ff_loop (FS : FFS w base fr p loose mean mg mb it x dx bm S a so items ns P) (hlen : ns.length = items.size) (hdd : dd ≤ 430) (huu : uu + 1 ≤ 230) {R : Result → Shared → Prop} (D : Addr) (hD : base.get? D = none) (hDf : D ∉ framesOf fr) (hD5 : D ∉ [it, x, dx, bm, S]) (hDa : a ≠ D) :
    ∀ (n i : Nat) (s : Shared) (acc : Array Value) (c : Nat), items.size - i = n → i ≤ items.size → FFD base fr it x dx bm S a so items i s.heap → s.heap.get? D = some { cls := .type "list", data := .seq acc c } → acc.size + n ≤ 2000 →
    (∀ h' tk' (ws : List Value) c', IntsAre ws ((ns.drop i).filter fun k => !P k) → h'.get? D = some { cls := .type "list", data := .seq (acc ++ ws.toArray) c' } → FFLeft fr it (· = D) s.heap h' → R (.ok (.ret .none)) { s with heap := h', toks := tk' }) →
    codeAny (model prg w) { handled := none, depth := dd, frames := some fr, guards := gd, units := uu } (.builtin "list.extend.loop" ⟨[.ref D, .ref x, .none], []⟩) R s := by
  have hDit : D ≠ it := fun e => hD5 (e ▸ .head _)
  have hD4 : D ∉ [x, dx, bm, S] := fun h => hD5 (.tail _ h)
  intro n
  induction n using Nat.strongRecOn with
  | _ n ih =>
    intro i s acc c hn hi FD hS hacc hR
    refine codeAny_builtin PySem.F.entry_extend_loop ?_
    rw [Around.under_plainId PySem.F.plain_extend_loop _]
    show wpAny _ _ (pyNext (.ref x) >>= _) _ _ s
    refine wpAny_bind (ff_turn FS hi FD hdd huu (fun j k t h' tk' hij hitem hk hP hall hkeep hit => ?_) (fun h' tk' hall hkeep hfr => ?_))
    · have hjlt : j < items.size := by
        rcases Nat.lt_or_ge j items.size with h | h
        · exact h
        · rw [Array.getElem?_eq_none h] at hitem; cases hitem
      have hS' := hkeep D _ hDit hS
      show wpAny _ _ (updateSeq D (·.push (.int k t)) >>= _) _ _ _
      refine wpAny_bind ?_
      have hsz : sizeLine = 2 ^ 24 := by first | rfl | exact sizeLine_eq
      refine wpAny_updateSeq hS' rfl (wpAny_pure ⟨plainId_quiet PySem.F.plain_extend_loop _, ih (items.size - (j + 1)) (by omega) (j + 1) _ (acc.push (.int k t)) _ rfl hjlt ?_ (Heap.get?_update_self _ hS' rfl) (by rw [Array.size_push]; omega) (fun h'' tk'' ws c' hws hD'' hleft => ?_)⟩)
        (by rw [sizeLine_eq]; omega) (by show (acc.push (.int k t)).size ≤ sizeLine + 1; rw [Array.size_push, sizeLine_eq]; omega)
      · refine FFD.move FS FD D hD hDf hD4 hDa (fun b o h1 h2 e => ?_) ?_
        · exact (Heap.get?_update_other _ _ (Ne.symm h2)).trans (hkeep b o h1 e)
        · exact (Heap.get?_update_other _ _ hDit).trans hit
      · refine hR h'' tk'' (.int k t :: ws) c' ?_ ?_ ⟨fun b o h1 h2 h3 e => hleft.1 b o h1 h2 h3 ?_, fun b o hb e => ?_⟩
        · rw [seek_item hk hP _ i rfl hij hall]
          exact .cons _ _ hws
        · rw [hD'']
          simp
        · exact (Heap.get?_update_other _ _ (Ne.symm h2)).trans (hkeep b o h1 e)
        · have hbit : b ≠ it := by
            intro q; obtain ⟨env, he, hf⟩ := List.mem_filterMap.mp hb; exact FS.nfr env he it (.head _) (q ▸ hf)
          have hbD : b ≠ D := fun q => hDf (q ▸ hb)
          exact hleft.2 b o hb ((Heap.get?_update_other _ _ (Ne.symm hbD)).trans (hkeep b o hbit e))
    · refine wpAny_pure ?_
      refine hR h' tk' [] c ?_ ?_ ⟨fun b o h1 h2 h3 e => hkeep b o h1 h3 e, hfr⟩
      · rw [seek_end hlen hall]; exact .nil
      · rw [hkeep D _ hDit hDf hS]
        simp
end
end Mine
end PartL12

section PartL13
open PySem PySem.W PyProof.Rows PySem.Spec PySem.Calls
set_option linter.unusedVariables false
set_option maxRecDepth 100000
set_option maxHeartbeats 4000000
namespace Mine
section
variable {w : World} {s : Shared} {base : Heap} {fr : List Env} {p : Program} {loose : List Str} {mean : ExcName → Option Value} {mg mb : Str → Option Value} {it x dx bm S a : Addr} {so : Obj} {items : Array Value} {ns : List Int} {P : Int → Bool}
  {dd uu : Nat} {gd : Option (List Code)} {E : Value → Shared → Prop}
theorem ff_extend (FS : FFS w base fr p loose mean mg mb it x dx bm S a so items ns P) (hlen : ns.length = items.size) (hsm : items.size ≤ 2000) (hdd : dd ≤ 430) (huu : uu + 1 ≤ 230) {R : Result → Shared → Prop} (D : Addr) (hD : base.get? D = none) (hDf : D ∉ framesOf fr) (hD5 : D ∉ [it, x, dx, bm, S]) (hDa : a ≠ D)
    (c : Nat) (FD : FFD base fr it x dx bm S a so items 0 s.heap) (hS : s.heap.get? D = some { cls := .type "list", data := .seq #[] c })
    (hR : ∀ h' tk' (ws : List Value) c', IntsAre ws (ns.filter fun k => !P k) → h'.get? D = some { cls := .type "list", data := .seq ws.toArray c' } → FFLeft fr it (· = D) s.heap h' → R (.ok (.ret .none)) { s with heap := h', toks := tk' }) :
    wpAny (model prg w) { handled := none, depth := dd, frames := some fr, guards := gd, units := uu + 1 } (Builtin.List.listExtendWith (.ref D) (.ref x) .none)
      (fun fin s' => match fin with | .done f => R (.ok f) s' | .again c' => c'.quiet = true ∧ codeAny (model prg w) { handled := none, depth := dd, frames := some fr, guards := gd, units := uu } c' R s') (fun e s' => R (.error e) s') s := by
  have hDx : D ≠ x := fun e => hD5 (e ▸ .tail _ (.head _))
  have hDit : D ≠ it := fun e => hD5 (e ▸ .head _)
  have hD4 : D ∉ [x, dx, bm, S] := fun h => hD5 (.tail _ h)
  have hx := FD.five _ (.tail _ (.head _))
  have hdx := FD.five _ (.tail _ (.tail _ (.head _)))
  have I : InstAt s.heap x (ffObj dx bm it) 61 (some (dictOf [] 0)) := ⟨hx, rfl, rfl, hdx⟩
  have X := FS.XB.keeps FD.stays
  obtain ⟨h₀, L₀, m₀, t1, _, _, F₀⟩ := FD.top
  unfold Builtin.List.listExtendWith
  refine wpAny_bind (I.type.here ?_)
  have h1 : Builtin.List.listSameRef (.ref D) (.ref x) = false := by simp [Builtin.List.listSameRef, hDx]
  have h2 : (Value.ref 61 == Value.type "list") = false := by decide
  have h3 : (Value.ref 61 == Value.type "tuple") = false := by decide
  simp only [h1, h2, h3, Bool.or_false, Bool.false_eq_true, if_false]
  refine wpAny_bind (owit_iter F₀ (FS.XB.keeps t1) I (ff_iter w) (fn_50 w) (wpAny_call (codeAny_le (iter_ctr x w base fr p loose mean mg mb s _ ⟨⟨rfl, FD.stays, FD.frames⟩, X, FS.TB.keeps FD.stays⟩ trivial ?_) hdd (by omega))))
  rintro v h2 tk2 st2 rfl
  have I2 : InstAt h2 x (ffObj dx bm it) 61 (some (dictOf [] 0)) := ⟨st2 _ _ hx, rfl, rfl, st2 _ _ hdx⟩
  have FD2 : FFD base fr it x dx bm S a so items 0 h2 := FFD.move FS FD D hD hDf hD4 hDa (fun b o _ _ e => st2 _ _ e) (st2 _ _ (FD.five _ (.head _)))
  have X2 := FS.XB.keeps FD2.stays
  show OwitIt _ _ _ _ _ _
  unfold OwitIt
  refine wpAny_bind (I2.type.here ((looks_findIn X2 (ff_next w)).here ?_))
  refine wpAny_bind (wpAny_holding ?_)
  unfold Builtin.List.listLengthHint
  refine wpAny_bind (wpAny_bind (I2.type.here ((looks_findIn X2 (ff_len w)).here ?_)))
  dsimp only
  refine wpAny_ite_split (fun hab => absurd hab (by decide)) (fun _ => ?_)
  refine wpAny_ite_split (fun hab => absurd hab (by decide)) (fun _ => ?_)
  refine wpAny_bind (wpAny_bind (I2.type.here ((looks_findIn X2 (ff_hint w)).here ?_)))
  refine wpAny_pure ?_
  refine wpAny_ite_split (fun _ => ?_) (fun hab => absurd rfl hab)
  refine wpAny_bind (wpAny_rule ?_)
  have hS₁ := st2 _ _ hS
  refine wpAny_bind ?_
  show wpAny _ _ (updateSeq D (·.push .none) >>= fun _ => updateSeq D (·.pop)) _ _ _
  refine wpAny_bind (wpAny_updateSeq hS₁ rfl ?_)
  have hS₂ := Heap.get?_update_self (Obj.mapSeq (·.push Value.none)) hS₁ rfl
  refine wpAny_updateSeq (hz := by seq_fits) hS₂ rfl ?_
  have hS₃ := Heap.get?_update_self (Obj.mapSeq (·.pop)) hS₂ rfl
  have oth : ∀ b o, b ≠ D → h2.get? b = some o → ((h2.update D (Obj.mapSeq (·.push Value.none))).update D (Obj.mapSeq (·.pop))).get? b = some o :=
    fun b o hb e => (Heap.get?_update_other _ _ (Ne.symm hb)).trans ((Heap.get?_update_other _ _ (Ne.symm hb)).trans e)
  refine wpAny_pure ⟨plainId_quiet PySem.F.plain_extend_loop _, ff_loop FS hlen hdd huu D hD hDf hD5 hDa _ 0 _ #[] _ rfl (Nat.zero_le _) ?_ hS₃ (by show 0 + (items.size - 0) ≤ 2000; omega) (fun h' tk' ws c' hws hDl hleft => ?_)⟩
  · exact FFD.move FS FD2 D hD hDf hD4 hDa (fun b o _ h4 e => oth b o h4 e) (oth _ _ (Ne.symm hDit) (FD2.five _ (.head _)))
  · rw [List.drop_zero] at hws
    refine hR h' tk' ws c' hws ?_ ⟨fun b o h4 h5 h6 e => hleft.1 b o h4 h5 h6 (oth b o h5 (st2 _ _ e)), fun b o hb e => hleft.2 b o hb (oth b o (fun q => hDf (q ▸ hb)) (st2 _ _ e))⟩
    rw [hDl]
    simp

theorem ff_call (FS : FFS w base fr p loose mean mg mb it x dx bm S a so items ns P) (hlen : ns.length = items.size) (hsm : items.size ≤ 2000) (hdd : dd ≤ 430) (huu : uu + 6 ≤ 230) {Q : Value → Shared → Prop}
    (FD : FFD base fr it x dx bm S a so items 0 s.heap)
    (hQ : ∀ h' tk' (ws : List Value) c', (1 ≤ s.toks → 1 ≤ tk') → IntsAre ws (ns.filter fun k => !P k) → h'.get? s.heap.objs.size = some { cls := .type "list", data := .seq ws.toArray c' } → FFLeft fr it (fun _ => False) s.heap h' → Q (.ref s.heap.objs.size) { s with heap := h', toks := tk' }) :
    wpAny (model prg w) { handled := none, depth := dd, frames := some fr, guards := gd, units := uu } (call (.type "list") [.ref x]) Q E s := by
  have main : wpAny (model prg w) { handled := none, depth := dd, frames := some fr, guards := gd, units := uu } (call (.type "list") [.ref x]) (fun v s' => (1 ≤ s.toks → 1 ≤ s'.toks) → Q v s') E s := by
   have hD : base.get? s.heap.objs.size = none := by
    cases q : base.get? s.heap.objs.size with
    | none => rfl
    | some o => exact absurd (Heap.lt_size (FD.stays _ _ q)) (Nat.lt_irrefl _)
   have hDf : s.heap.objs.size ∉ framesOf fr := fun hm => by
    obtain ⟨_, o, ho, _⟩ := FD.frames.mem hm
    exact absurd (Heap.lt_size ho) (Nat.lt_irrefl _)
   have hD5 : s.heap.objs.size ∉ [it, x, dx, bm, S] := fun hm => by
    have h5 := fun q hq => Heap.lt_size (FD.five q hq)
    simp only [List.mem_cons, List.not_mem_nil, or_false] at hm
    rcases hm with h | h | h | h | h
    · exact absurd (h5 _ (.head _)) (by rw [h]; exact Nat.lt_irrefl _)
    · exact absurd (h5 _ (.tail _ (.head _))) (by rw [h]; exact Nat.lt_irrefl _)
    · exact absurd (h5 _ (.tail _ (.tail _ (.head _)))) (by rw [h]; exact Nat.lt_irrefl _)
    · exact absurd (h5 _ (.tail _ (.tail _ (.tail _ (.head _))))) (by rw [h]; exact Nat.lt_irrefl _)
    · exact absurd (h5 _ (.tail _ (.tail _ (.tail _ (.tail _ (.head _)))))) (by rw [h]; exact Nat.lt_irrefl _)
   have hDa : a ≠ s.heap.objs.size := by
    obtain ⟨o, ho, _⟩ := FD.list
    exact Nat.ne_of_lt (Heap.lt_size ho)
   have hDit : it ≠ s.heap.objs.size := fun e => hD5 (e ▸ .head _)
   have hD4 : s.heap.objs.size ∉ [x, dx, bm, S] := fun h => hD5 (.tail _ h)
   refine callType_codes (Q₁ := fun obj s₁ => obj = .ref s.heap.objs.size ∧ s₁ = { s with heap := s.heap.push { cls := .type "list", data := .seq #[] } }) PySem.F.called_list (PySem.F.typeCall_list_1 _) PySem.F.entry_list_init
    (code_list_new _ ⟨rfl, rfl⟩) fun obj s₁ h₁ => ?_
   obtain ⟨rfl, rfl⟩ := h₁
   have hS : (s.heap.push { cls := .type "list", data := .seq #[] }).get? s.heap.objs.size = some { cls := .type "list", data := .seq #[] } := Heap.get?_push_size _ rfl
   refine ⟨⟨_, hS, rfl⟩, PySem.F.args_list_init_2 _ _, ?_⟩
   show wpAny _ _ (do let old ← Builtin.List.listItems (.ref s.heap.objs.size); Builtin.List.listUpdate (.ref s.heap.objs.size) (fun _ => #[]); letGo old.toList.reverse; Builtin.List.listExtendWith (.ref s.heap.objs.size) (.ref x) .none) _ _ _
   refine wpAny_bind ?_
   unfold Builtin.List.listItems
   refine wpAny_bind (wpAny_seqItems hS rfl (wpAny_pure ?_))
   show wpAny _ _ (updateSeq s.heap.objs.size (fun _ => #[]) >>= fun _ => letGo (#[] : Array Value).toList.reverse >>= fun _ => Builtin.List.listExtendWith (.ref s.heap.objs.size) (.ref x) .none) _ _ _
   refine wpAny_bind (wpAny_updateSeq hS rfl ?_)
   have hS₂ := Heap.get?_update_self (Obj.mapSeq (fun _ => (#[] : Array Value))) hS rfl
   have oth : ∀ b o, b ≠ s.heap.objs.size → s.heap.get? b = some o → ((s.heap.push { cls := .type "list", data := .seq #[] }).update s.heap.objs.size (Obj.mapSeq (fun _ => (#[] : Array Value)))).get? b = some o :=
    fun b o hb e => (Heap.get?_update_other _ _ (Ne.symm hb)).trans (Heap.get?_push_of_some _ e)
   refine wpAny_bind (wpAny_letGo ?_)
   refine ff_extend (uu := uu + 1) (gd := gd) (s := { s with heap := (s.heap.push { cls := .type "list", data := .seq #[] }).update s.heap.objs.size (Obj.mapSeq (fun _ => (#[] : Array Value))) }) (R := fun r s' => wants (fun r s₂ => r = .none ∧ ((1 ≤ s.toks → 1 ≤ s₂.toks) → Q (.ref s.heap.objs.size) s₂)) E r s') FS hlen hsm hdd (by omega) s.heap.objs.size hD hDf hD5 hDa ?c ?fd ?hs (fun h' tk' ws c' hws hDl hleft => ?_)
   case hs => exact hS₂
   · exact FFD.move FS FD s.heap.objs.size hD hDf hD4 hDa (fun b o _ h4 e => oth b o h4 e) (oth _ _ hDit (FD.five _ (.head _)))
   · refine ⟨rfl, fun ht => hQ h' tk' ws c' ht hws hDl ⟨fun b o h4 h5 h6 e => ?_, fun b o hb e => ?_⟩⟩
     · have hne : b ≠ s.heap.objs.size := Nat.ne_of_lt (Heap.lt_size e)
       exact hleft.1 b o h4 hne h6 (oth b o hne e)
     · have hne : b ≠ s.heap.objs.size := Nat.ne_of_lt (Heap.lt_size e)
       exact hleft.2 b o hb (oth b o hne e)
  exact with_toks main
end
end Mine
end PartL13

section PartL14
open PySem PySem.W PyProof.Rows PySem.Spec PySem.Calls
set_option linter.unusedVariables false
set_option maxRecDepth 100000
set_option maxHeartbeats 4000000
namespace Mine
theorem filled14 : (PySem.Challenge.rw_ij0006_01, hd.heap_39) = (PySem.Challenge.rw_ij0006_01, hd.heap_39) := by k_fill; rfl

/-- only the slots of frames may differ -/
def TurnH (fs : List Addr) (h h' : Heap) : Prop :=
  (∀ b o, b ∉ fs → h.get? b = some o → h'.get? b = some o) ∧ (∀ b o, b ∈ fs → h.get? b = some o → ∃ sl, h'.get? b = some { o with slots := sl })

structure CtxB (w : World) (base : Heap) (outer : List Env) (p : Program) (loose : List Str) (mean : ExcName → Option Value) (mg mb : Str → Option Value) (A : Around) (h : Heap) : Prop where
  B : Below A base outer h
  XB : (hd.heap_39 w.params).In base
  TB : Top p loose mean mg mb base

/-- a contract that turns the frames below -/
def CtrT (d u : Nat) (f : Addr) (args : List Value) (H : World → Shared → Prop) (P : World → Heap → Heap → Value → Prop) : Prop :=
  ∀ (w : World) (base : Heap) (outer : List Env) (p : Program) (loose : List Str) (mean : ExcName → Option Value) (mg mb : Str → Option Value) (s : Shared) (R : Result → Shared → Prop),
    CtxB w base outer p loose mean mg mb (CA d u outer) s.heap → H w s →
    (∀ v h' tk', TurnH (framesOf outer) s.heap h' → P w s.heap h' v → R (.ok (.ret v)) { s with heap := h', toks := tk' }) →
    codeAny (model prg w) (CA d u outer) (.call (.ref f) ⟨args, []⟩) R s

/-- what is left, by the addresses of the frames -/
def LeftAt (fs : List Addr) (it : Addr) (h h' : Heap) : Prop :=
  (∀ b o, b ≠ it → b ∉ fs → h.get? b = some o → h'.get? b = some o) ∧ (∀ b o, b ∈ fs → h.get? b = some o → ∃ sl, h'.get? b = some { o with slots := sl })
theorem LeftAt.of {fr : List Env} {fs : List Addr} {it : Addr} {h h' : Heap} (e : framesOf fr = fs) (x : FFLeft fr it (fun _ => False) h h') : LeftAt fs it h h' :=
  e ▸ ⟨fun b o h1 h2 h3 => x.1 b o h1 (fun q => q) h2 h3, x.2⟩

theorem after_ff {A₀ : Around} {base g h h' : Heap} {outer : List Env} {L it : Addr} {m : Str → Option Value}
    (K : Below A₀ base outer g) (F : Fr g L h m) (hit : g.get? it = none) (hL : it ≠ L) (left : LeftAt (L :: framesOf outer) it h h') :
    ∃ g', KtsTurn (framesOf outer) g g' ∧ Fr g' L h' m ∧ Below A₀ base outer g' := by
  have FG : Fr g L (hideAll h [it]) m := by
    obtain ⟨oL, es, ep, hoL, hd, hk, hf⟩ := F.ns
    exact ⟨⟨oL, es, ep, hideAll_get _ hoL (fun q => hL (List.mem_singleton.mp q).symm), hd, hk, hf⟩, fun b o e => hideAll_get _ (F.keep b o e) (fun q => by rw [List.mem_singleton.mp q, hit] at e; cases e), F.above⟩
  have hn : ∀ {b o}, (hideAll h [it]).get? b = some o → b ≠ it := fun {b o} e q => by
    rw [q, hideAll_none _ (.head _)] at e; cases e
  refine kts_ground (name := "f") (scope := { kind := .function, names := [], isGenerator := false, isCoroutine := false }) (a := 0) (cd := .none) (B := hideAll (hideAll h [it]) (L :: framesOf outer)) K FG (fun b o e hb => hideAll_get _ e hb) (fun b o e => ?_) (fun b o e _ => ?_)
  · have e1 := of_hideAll _ e
    exact left.1 b o (hn e1) (fun hb => by rw [hideAll_none _ hb] at e; cases e) (of_hideAll _ e1)
  · by_cases hb : b ∈ L :: framesOf outer
    · exact left.2 b o hb (of_hideAll _ e)
    · exact ⟨o.slots, left.1 b o (hn e) hb (of_hideAll _ e)⟩

theorem after_news {A₀ : Around} {base g g' h h' : Heap} {outer : List Env} {L it : Addr} {news news' : List (Addr × Obj)}
    (K : Below A₀ base outer g) (N : News g L h news) (T : KtsTurn (framesOf outer) g g') (left : LeftAt (L :: framesOf outer) it h h') (hs : ∀ q ∈ news', q ∈ news ∧ q.1 ≠ it) :
    News g' L h' news' := fun q hq => by
  obtain ⟨h1, h2, h3⟩ := N q (hs q hq).1
  refine ⟨left.1 _ _ (hs q hq).2 (fun hb => ?_) h1, h2, T.none_ _ h3⟩
  rcases List.mem_cons.mp hb with e | e
  · exact h2 e
  · obtain ⟨_, o, ho, _⟩ := K.frames.mem e
    rw [h3] at ho; cases ho

theorem after_new {g g' h h' : Heap} {fs : List Addr} {L D : Addr} {m : Str → Option Value} {o : Obj} (F : Fr g L h m) (T : KtsTurn fs g g') (hD : h.get? D = none) (ho : h'.get? D = some o) {news : List (Addr × Obj)} (N : News g' L h' news) : News g' L h' ((D, o) :: news) := fun q hq => by
  rcases List.mem_cons.mp hq with rfl | hq
  · refine ⟨ho, fun e => ?_, T.none_ _ ?_⟩
    · obtain ⟨oL, _, _, hoL, _⟩ := F.ns
      have e' : D = L := e
      rw [← e', hD] at hoL; cases hoL
    · cases q : g.get? D with
      | none => rfl
      | some o' => rw [F.keep D o' q] at hD; cases hD
  · exact N q hq

/-- what stands in g and in its base: a heap cut off below the frame -/
theorem fr_base {base g h : Heap} {L : Addr} {m : Str → Option Value} (st : base.StaysIn g) (F : Fr g L h m) : ∃ h₀, base.StaysIn h₀ ∧ h₀.StaysIn base ∧ Fr h₀ L h m := by
  have cut : ∀ b, b < L → ({ base with objs := base.objs.extract 0 L } : Heap).get? b = base.get? b := fun b hb => by
    have e : (base.objs.extract 0 L)[b]? = base.objs[b]? := by
      rw [Array.getElem?_extract, Nat.sub_zero]
      have hb' : @LT.lt Nat instLTNat b L := hb
      rcases Nat.lt_or_ge b base.objs.size with hs | hs
      · rw [if_pos (Nat.lt_min.mpr ⟨hb', hs⟩), Nat.zero_add]
      · rw [if_neg (fun q => Nat.lt_irrefl _ (Nat.lt_of_lt_of_le (Nat.lt_min.mp q).2 hs)), Array.getElem?_eq_none hs]
    unfold Heap.get?
    rw [e]
  have sz : ({ base with objs := base.objs.extract 0 L } : Heap).objs.size ≤ L := by
    show (base.objs.extract 0 L).size ≤ L
    rw [Array.size_extract]
    exact Nat.le_trans (Nat.sub_le _ _) (Nat.min_le_left _ _)
  have low : ∀ b o, base.get? b = some o → b < L := fun b o e => Nat.lt_of_lt_of_le (Heap.lt_size (st b o e)) F.above
  have back : ({ base with objs := base.objs.extract 0 L } : Heap).StaysIn base := fun b o e => by
    rw [← cut b (Nat.lt_of_lt_of_le (Heap.lt_size e) sz)]; exact e
  exact ⟨_, fun b o e => (cut b (low b o e)).trans e, back, F.ns, fun b o e => F.keep b o (st b o (back b o e)), sz⟩

section
variable {w : World} {s : Shared} {base g : Heap} {outer : List Env} {p : Program} {loose : List Str} {mean : ExcName → Option Value} {mg mb : Str → Option Value} {it x dx bm S a L : Addr} {items : Array Value} {ns : List Int} {P : Int → Bool}
  {dd uu : Nat} {gd : Option (List Code)} {E : Value → Shared → Prop} {A₀ : Around} {env : Env} {m : Str → Option Value}
/-- list(..) of a filterfalse, within a walk -/
theorem use_ff (B : Below A₀ base outer g) (F : Fr g L s.heap m) (XB : (hd.heap_39 w.params).In base) (TB : Top p loose mean mg mb base) (hf : env.frame = some L) (hk : env.scope.kind = .function)
    (hff : IsFF w s.heap x it dx bm S a 0 P) (fg : ∀ b ∈ [it, x, dx, bm, S], g.get? b = none ∧ b ≠ L) (hne : it ≠ x ∧ it ≠ dx ∧ it ≠ bm ∧ it ≠ S) (hab : ∀ b ∈ [it, x, dx, bm, S], a ≠ b)
    (hl : s.heap.IsList a items) (hI : IntsAre items.toList ns) (hsm : ns.length ≤ 2000) (hdd : dd ≤ 430) (huu : uu + 6 ≤ 230) {Q : Value → Shared → Prop}
    (hQ : ∀ g' h' tk' (ws : List Value) c', (1 ≤ s.toks → 1 ≤ tk') → IntsAre ws (ns.filter fun k => !P k) → s.heap.get? s.heap.objs.size = none → h'.get? s.heap.objs.size = some (listOf ws.toArray c') → LeftAt (L :: framesOf outer) it s.heap h' →
      KtsTurn (framesOf outer) g g' → Fr g' L h' m → Below A₀ base outer g' → Q (.ref s.heap.objs.size) { s with heap := h', toks := tk' }) :
    wpAny (model prg w) { handled := none, depth := dd, frames := some (env :: outer), guards := gd, units := uu } (call (.type "list") [.ref x]) Q E s := by
  obtain ⟨f, n, hSO, hn, hfP⟩ := hff.set
  obtain ⟨es, ep, tb, hso⟩ := set_obj hSO
  have hlen : ns.length = items.size := by rw [← IntsAre.length hI, Array.length_toList]
  have hsO : ∀ h : Heap, h.get? S = some { cls := .type "set", dict := none, data := .set es ep tb, slots := #[] } → h.SetOf (intKind prg w) S f n := fun h e => setOf_at hSO (fun o e2 => by rw [hso] at e2; rw [← e2]; exact e)
  have hB := pushX B F hf hk
  have hfs : framesOf (env :: outer) = L :: framesOf outer := by simp only [framesOf, List.filterMap_cons, hf]
  have hb0 : ∀ b ∈ [it, x, dx, bm, S], base.get? b = none := fun b hb => by
    cases q : base.get? b with
    | none => rfl
    | some o => have := B.stays b o q; rw [(fg b hb).1] at this; cases this
  have FS : FFS w base (env :: outer) p loose mean mg mb it x dx bm S a _ items ns P := {
    XB := XB, TB := TB, hI := hI, ne := hne, fresh := hb0, hS := ⟨f, n, hsO, hn, hfP⟩
    ab := ⟨hab it (.head _), hab x (.tail _ (.head _)), hab dx (.tail _ (.tail _ (.head _))), hab bm (.tail _ (.tail _ (.tail _ (.head _)))), hab S (.tail _ (.tail _ (.tail _ (.tail _ (.head _)))))⟩
    nfr := fun env' he b hb hfb => by
      rcases List.mem_cons.mp he with rfl | he
      · rw [hf] at hfb; exact (fg b hb).2 (Option.some.inj hfb).symm
      · obtain ⟨_, o, ho, _⟩ := B.frames.mem (List.mem_filterMap.mpr ⟨env', he, hfb⟩)
        rw [(fg b hb).1] at ho; cases ho }
  have FD : FFD base (env :: outer) it x dx bm S a { cls := .type "set", dict := none, data := .set es ep tb, slots := #[] } items 0 s.heap := {
    stays := hB.stays, frames := hB.frames, list := hl
    top := by
      obtain ⟨h₀, t1, t2, F₀⟩ := fr_base B.stays F
      exact ⟨h₀, L, m, t1, t2, by rw [hfs]; exact .head _, F₀⟩
    five := fun q hq => by
      simp only [news5, List.mem_cons, List.not_mem_nil, or_false] at hq
      rcases hq with rfl | rfl | rfl | rfl | rfl
      · exact hff.iter
      · exact hff.inst
      · exact hff.dct
      · exact hff.bnd
      · exact hso }
  refine ff_call FS hlen (by omega) hdd huu FD (fun h' tk' ws c' ht hws hD left => ?_)
  have left' := LeftAt.of hfs left
  obtain ⟨g', T', F', B'⟩ := after_ff B F (fg it (.head _)).1 (fg it (.head _)).2 left'
  exact hQ g' h' tk' ws c' ht hws (Heap.get?_none_of_le (Nat.le_refl _)) hD left' T' F' B'
end

theorem fresh_of {g h : Heap} {L b : Addr} {m : Str → Option Value} (F : Fr g L h m) (f : h.get? b = none) : g.get? b = none ∧ b ≠ L := by
  refine ⟨?_, fun e => ?_⟩
  · cases q : g.get? b with
    | none => rfl
    | some o => rw [F.keep b o q] at f; cases f
  · obtain ⟨oL, _, _, hoL, _⟩ := F.ns
    rw [← e, f] at hoL; cases hoL
theorem all5 {P : Addr → Prop} {a b c d e : Addr} (h1 : P a) (h2 : P b) (h3 : P c) (h4 : P d) (h5 : P e) : ∀ x ∈ [a, b, c, d, e], P x := by
  intro x hx
  simp only [List.mem_cons, List.not_mem_nil, or_false] at hx
  rcases hx with rfl | rfl | rfl | rfl | rfl <;> assumption
theorem ne_none {h : Heap} {a b : Addr} {items : Array Value} (hl : h.IsList a items) (f : h.get? b = none) : a ≠ b := fun e => by
  obtain ⟨o, ho, _⟩ := hl
  rw [e, f] at ho; cases ho
theorem kt_list {fs : List Addr} {g g' : Heap} {a : Addr} {items : Array Value} (T : KtsTurn fs g g') (hl : g.IsList a items) : g'.IsList a items := by
  obtain ⟨o, ho, hc, n, hd⟩ := hl
  obtain ⟨sl, hs⟩ := T.up ho
  exact ⟨_, hs, hc, n, hd⟩
theorem kt_back {fs : List Addr} {g g' : Heap} {a : Addr} (T : KtsTurn fs g g') (hl : g'.get? a = none) : g.get? a = none := by
  cases q : g.get? a with
  | none => rfl
  | some o => obtain ⟨sl, hs⟩ := T.up q; rw [hl] at hs; cases hs
theorem kt_turnH {fs : List Addr} {g g' h : Heap} (T : KtsTurn fs g g') (k : ∀ b o, g'.get? b = some o → h.get? b = some o) : TurnH fs g h :=
  ⟨fun b o hb e => k _ _ (T.other b o e hb), fun b o hb e => let ⟨sl, hs⟩ := T.frame b o e hb; ⟨sl, k _ _ hs⟩⟩
section
local macro_rules | `(tactic| walk_at "call ref") => `(tactic| (refine Stop.out ?_))
local macro_rules | `(tactic| walk_at "call type:list") => `(tactic| (refine Stop.out ?_))
local macro_rules | `(tactic| walk_at "call type:list cons nil") => `(tactic| (refine Stop.out ?_))
set_option pp.deepTerms false
set_option pp.maxSteps 3000
theorem apart_ctr (a b : Addr) (xs ys : List Value) (ns ks : List Int) (hx : IntsAre xs ns) (hy : IntsAre ys ks) (hn : ns.length ≤ 400) (hk : ks.length ≤ 400) :
    CtrT 420 210 112 [.ref a, .ref b] (fun _ s => s.heap.IsList a xs.toArray ∧ s.heap.IsList b ys.toArray)
    (fun w h h' v => ∃ d ws n, v = .ref d ∧ h.get? d = none ∧ h'.get? d = some (listOf (List.toArray ws) n) ∧ IntsAre ws (ns.filter (fun k => !decide (k ∈ ks)) ++ ks.filter (fun k => !decide (k ∈ ns)))) := by
  intro w base outer p loose mean mg mb s R C hH hE
  obtain ⟨B, XB, TB⟩ := C
  obtain ⟨hA, hB⟩ := hH
  have X := XB.keeps B.stays
  have T := TB.keeps B.stays
  refine' enter B X T ?k6 ?k7 ?k8 ?k9 ?kB ?_ ?c2 ?c3 ?c4 ?c5
  (case k6 => k_is); (case k7 => k_is); (case k8 => decide); (case k9 => exact BindsTo.of_eq rfl)
  (case kB => exact locs rfl); (case c2 => exact rfl); (case c3 => exact rfl); (case c4 => exact rfl); (case c5 => decide)
  intro L' h₁ hL' F' N'; (try dsimp only)
  k_fold
  k_steps
  refine Stop.on ?_
  (rename Fr _ _ _ _ => F1)
  refine use_ctr (diff_ctr a b xs.toArray ys ks hy (by omega)) (by assumption) (by k_asm) (by assumption) (by assumption) rfl (by intro e; cases e) (by dsimp only [CA, Around.deeper]; omega) (by dsimp only [CA, Around.deeper]; omega) ⟨hB.at (fun o e => F1.keep b o e), hA.at (fun o e => F1.keep a o e)⟩ ?_
  rintro _ h2 tk2 st2 ht2 ⟨x, it, dx, bm, S, rfl, hff, f1, f2, f3, f4, f5, n1, n2, n3, n4⟩
  have F2 := Fr.grow F1 st2
  have N2 := News.grow N' st2
  have g5 := all5 (P := fun b => s.heap.get? b = none ∧ b ≠ L') (fresh_of F1 f2) (fresh_of F1 f1) (fresh_of F1 f3) (fresh_of F1 f4) (fresh_of F1 f5)
  have a5 := all5 (P := fun b => a ≠ b) (ne_none hA (fresh_of F1 f2).1) (ne_none hA (fresh_of F1 f1).1) (ne_none hA (fresh_of F1 f3).1) (ne_none hA (fresh_of F1 f4).1) (ne_none hA (fresh_of F1 f5).1)
  clear F1 N' f1 f2 f3 f4 f5
  dsimp only
  k_steps
  refine Stop.on ?_
  refine use_ff B F2 XB TB rfl rfl hff g5 ⟨n1, n2, n3, n4⟩ a5 (hA.at (fun o e => F2.keep a o e)) (by rw [List.toList_toArray]; exact hx) (by omega) (by dsimp only [CA, Around.deeper]; omega) (by dsimp only [CA, Around.deeper]; omega) ?_
  intro g3 h3 tk3 ws1 c1 ht3 hws1 hDn1 hD1 left1 T3 F3 B3
  have X3 := XB.keeps B3.stays
  have TT3 := TB.keeps B3.stays
  have hA3 := kt_list T3 hA
  have hB3 := kt_list T3 hB
  have N3 : News g3 L' h3 [(h2.objs.size, listOf ws1.toArray c1)] := after_new F2 T3 hDn1 hD1 News.nil
  clear B X T F2 N2 hA hB left1 hD1 hDn1 a5 g5 hff
  dsimp only
  k_steps
  refine Stop.on ?_
  refine use_ctr (diff_ctr b a ys.toArray xs ns hx (by omega)) (by assumption) (by k_asm) (by assumption) (by assumption) rfl (by intro e; cases e) (by dsimp only [CA, Around.deeper]; omega) (by dsimp only [CA, Around.deeper]; omega) ⟨hA3.at (fun o e => F3.keep a o e), hB3.at (fun o e => F3.keep b o e)⟩ ?_
  rintro _ h4 tk4 st4 ht4 ⟨x, it, dx, bm, S, rfl, hff, f1, f2, f3, f4, f5, n1, n2, n3, n4⟩
  have F4 := Fr.grow F3 st4
  have N4 := News.grow N3 st4
  have g5 := all5 (P := fun b => g3.get? b = none ∧ b ≠ L') (fresh_of F3 f2) (fresh_of F3 f1) (fresh_of F3 f3) (fresh_of F3 f4) (fresh_of F3 f5)
  have a5 := all5 (P := fun c => b ≠ c) (ne_none hB3 (fresh_of F3 f2).1) (ne_none hB3 (fresh_of F3 f1).1) (ne_none hB3 (fresh_of F3 f3).1) (ne_none hB3 (fresh_of F3 f4).1) (ne_none hB3 (fresh_of F3 f5).1)
  have hit1 : h2.objs.size ≠ it := fun e => by
    have q := (N3 _ (.head _)).1
    dsimp only at q f2
    rw [e, f2] at q; cases q
  clear F3 N3 f1 f2 f3 f4 f5
  dsimp only
  k_steps
  refine Stop.on ?_
  refine use_ff B3 F4 XB TB rfl rfl hff g5 ⟨n1, n2, n3, n4⟩ a5 (hB3.at (fun o e => F4.keep b o e)) (by rw [List.toList_toArray]; exact hy) (by omega) (by dsimp only [CA, Around.deeper]; omega) (by dsimp only [CA, Around.deeper]; omega) ?_
  intro g5' h5 tk5 ws2 c2 ht5 hws2 hDn2 hD2 left2 T5 F5 B5
  have X5 := XB.keeps B5.stays
  have TT5 := TB.keeps B5.stays
  have N5a : News g5' L' h5 [(h2.objs.size, listOf ws1.toArray c1)] := after_news B3 N4 T5 left2 (fun q hq => by
    rw [List.mem_singleton.mp hq]
    exact ⟨.head _, hit1⟩)
  have N5 : News g5' L' h5 [(h4.objs.size, listOf ws2.toArray c2), (h2.objs.size, listOf ws1.toArray c1)] := after_new F4 T5 hDn2 hD2 N5a
  clear B3 X3 TT3 F4 N4 left2 hD2 hDn2 a5 g5 hff N5a
  dsimp only
  k_steps
  have q1 := IntsAre.length hws1
  have q2 := IntsAre.length hws2
  have q3 := List.length_filter_le (fun k => !decide (k ∈ ks)) ns
  have q4 := List.length_filter_le (fun k => !decide (k ∈ ns)) ks
  refine add_lists_ints F5 N5 ⟨_, (N5 _ (.tail _ (.head _))).1, rfl, _, rfl⟩ ⟨_, (N5 _ (.head _)).1, rfl, _, rfl⟩ hws1 hws2 ?_ (by rw [sizeLine_eq]; omega)
  intro h6 F6 N6 hI6
  have TT := T3.trans T5
  (try k_unfold); (try dsimp only)
  refine hE _ h6 _ (kt_turnH TT F6.keep) ⟨_, _, _, rfl, ?_, (N6 _ (.head _)).1, hI6⟩
  exact kt_back TT (N6 _ (.head _)).2.2
end
end Mine
end PartL14

section PartM0
open PySem PySem.W PyProof.Rows PySem.Spec PySem.Calls
set_option linter.unusedVariables false
set_option maxRecDepth 100000
set_option maxHeartbeats 4000000
namespace Mine
theorem filledm0 : (PySem.Challenge.rw_ij0006_01, hd.heap_39) = (PySem.Challenge.rw_ij0006_01, hd.heap_39) := by k_fill; rfl
/-- body and scope of the law -/
def lawOf (K : Frag) : Option (List Stmt × Scope) := match K.lookup 124 with
  | some ⟨_, _, .func fd, _⟩ => (match fd.body with | .stmts b => some (b, fd.scope) | _ => none)
  | _ => none
def at4 : List Stmt → Stmt | _ :: _ :: _ :: _ :: x :: _ => x | _ => .Pass ⟨0, 0, 0, 0⟩
def forBody : Stmt → List Stmt | .For _ _ body _ _ => body | _ => []
def tail4 : List Stmt → List Stmt | _ :: _ :: _ :: _ :: r => r | _ => []
def tail5 : List Stmt → List Stmt | _ :: _ :: _ :: _ :: _ :: r => r | _ => []
theorem law_start {w : World} {P : List Stmt → Scope → Prop} {name qual : Str} {params : Arguments} {body : List Stmt} {scope : Scope} {dV kV doc pm cdv ct oc : Value} {an od : Option Addr} {osl : Array (Option Value)}
    (ho : (hd.heap_39 w.params).lookup 124 = some ⟨oc, od, .func (fnOf name qual params body scope dV kV doc pm an cdv ct), osl⟩) (hp : P body scope) : ∀ b' sc', lawOf (hd.heap_39 w.params) = some (b', sc') → P b' sc' := by
  intro b' sc' e
  unfold lawOf at e
  rw [ho] at e
  cases e
  exact hp

section
variable {prog : Program} {w : World} {A : Around} {E : Value → Shared → Prop} {s : Shared} {env : Env} {h₀ : Heap} {x : Str} {body : List Stmt}
/-- over range(n) -/
theorem range_T {Q : Flow → Shared → Prop} {r : Addr} {n : Nat} {t u v : Tok} {m : Str → Option Value} {news : List (Addr × Obj)} (J : Nat → (Str → Option Value) → List (Addr × Obj) → Prop)
    (hh : A.handled = none) (hr : IsRange s.heap r 0 n 1 t u v) (hn : n ≤ 1000) (F : Fr h₀ env.locals s.heap m) (N : News h₀ env.locals s.heap news) (ht : 1 ≤ s.toks) (hj : J 0 m news)
    (turn : ∀ (i : Nat) (t : Tok) m₁ news₁ h tk own I, i < n → J i m₁ news₁ → 1 ≤ tk → (∀ p ∈ news₁, p.1 ≠ I) → (∃ oI, (I, oI) ∈ own) → (∀ p ∈ own, p.1 = I) → s.heap.objs.size ≤ I →
      Fr h₀ env.locals h (fun y => if y = x then some (.int i t) else m₁ y) → News h₀ env.locals h (own ++ news₁) →
      wpAny (model prog w) A (execs body env) (TurnEnd h₀ env.locals I own (J (i + 1)) { s with heap := h, toks := tk }) (fun _ _ => False) { s with heap := h, toks := tk })
    (done : ∀ h' tk m' news', 1 ≤ tk → Fr h₀ env.locals h' m' → News h₀ env.locals h' news' → J n m' news' → Q .next { s with heap := h', toks := tk }) :
    wpAny (model prog w) A (pyIter (.ref r)) (fun it s₂ => LoopT prog w A h₀ env x body Q it s₂) E s := by
  have hsz : Builtin.Range.rangeSize 0 n 1 = n := by unfold Builtin.Range.rangeSize; first | omega | (simp; omega) | simp
  have hsm : Builtin.Range.small 0 n 1 = true := by
    unfold Builtin.Range.small
    rw [hsz]
    simp [Builtin.Range.rangeFitsLong]
    omega
  refine wpAny_pyIter_range hr hsm ?_
  have W := Walks.range (prog := prog) (w := w) hh s.heap.objs.size 0 1 n
  rw [hsz]
  refine ⟨_, _, _, _, _, m, news, J, rfl, W, ?_, next_is_new F, ?_, ?_, F.push _, (fun p hp => ⟨Heap.get?_push_of_some _ (N p hp).1, (N p hp).2⟩), hj, ht, ⟨_, Heap.get?_push_size _ rfl⟩, ?_, ?_, ?_⟩
  · intro hm
    exact absurd F.ns.lt ((List.mem_singleton.mp hm) ▸ Nat.lt_irrefl _)
  · intro p hp hI
    exact absurd (Heap.lt_size (N p hp).1) (hI ▸ Nat.lt_irrefl _)
  · show IsRangeIter _ _ _ _ _
    simpa using Heap.get?_push_size _ rfl
  · intro i h hst
    exact ⟨_, hst⟩
  · intro i v m₁ news₁ h tk own hi hP hJ htk hnI hI hown F₁ N₁
    obtain ⟨t', rfl⟩ := hP
    rw [show (0 : Int) + (i : Int) * 1 = (i : Int) by omega] at F₁
    exact turn i t' m₁ news₁ h tk own _ hi hJ htk hnI hI (fun p hp => List.mem_singleton.mp (hown p hp)) (Nat.le_refl _) F₁ N₁
  · intro h' tk m' news' htk F' N' _ hJ
    exact done h' tk m' news' htk F' N' hJ
end

def know : List (Str × Value) → (Str → Option Value) → Str → Option Value
  | [], m => m
  | p :: r, m => fun y => if y = p.1 then some p.2 else know r m y
theorem know_eq {m : Str → Option Value} : ∀ {l : List (Str × Value)}, (∀ p ∈ l, m p.1 = some p.2) → know l m = m
  | [], _ => rfl
  | p :: r, h => by
    funext y
    show (if y = p.1 then some p.2 else know r m y) = m y
    rw [know_eq (l := r) fun q hq => h q (.tail _ hq)]
    by_cases e : y = p.1
    · rw [if_pos e, e, h p (.head _)]
    · rw [if_neg e]
theorem fr_knows {h₀ h : Heap} {L : Addr} {m : Str → Option Value} (l : List (Str × Value)) (F : Fr h₀ L h m) (hl : ∀ p ∈ l, m p.1 = some p.2) : Fr h₀ L h (know l m) := by
  rw [know_eq hl]; exact F
theorem all_nil {m : Str → Option Value} : ∀ p ∈ ([] : List (Str × Value)), m p.1 = some p.2 := fun _ h => nomatch h
theorem all_cons {m : Str → Option Value} {x : Str} {v : Value} {l : List (Str × Value)} (h : m x = some v) (r : ∀ p ∈ l, m p.1 = some p.2) : ∀ p ∈ (x, v) :: l, m p.1 = some p.2 := fun p hp => by
  rcases List.mem_cons.mp hp with rfl | hp
  · exact h
  · exact r p hp

/-- the names that these values tell -/
inductive Names (tl : List (Addr × Obj)) : List Value → List (Int × Int × Int) → Prop
  | nil : Names tl [] []
  | cons {a : Addr} {n : Nat} {u1 u2 u3 : Tok} {x : Int × Int × Int} {vs : List Value} {xs : List (Int × Int × Int)} (h : (a, ({ cls := .type "tuple", data := .seq #[.int x.1 u1, .int x.2.1 u2, .int x.2.2 u3] n } : Obj)) ∈ tl) (r : Names tl vs xs) : Names tl (.ref a :: vs) (x :: xs)
theorem Names.mono {tl tl' : List (Addr × Obj)} (h : ∀ p ∈ tl, p ∈ tl') : ∀ {vs xs}, Names tl vs xs → Names tl' vs xs
  | _, _, .nil => .nil
  | _, _, .cons h1 r => .cons (h _ h1) (Names.mono h r)
theorem Names.append {tl : List (Addr × Obj)} : ∀ {vs xs ws ys}, Names tl vs xs → Names tl ws ys → Names tl (vs ++ ws) (xs ++ ys)
  | _, _, _, _, .nil, h => h
  | _, _, _, _, .cons h1 r, h => .cons h1 (Names.append r h)
theorem Names.length {tl : List (Addr × Obj)} : ∀ {vs xs}, Names tl vs xs → vs.length = xs.length
  | _, _, .nil => rfl
  | _, _, .cons _ r => by simp [Names.length r]
theorem Names.at9 {tl : List (Addr × Obj)} {vs : List Value} {xs : List (Int × Int × Int)} (h : Names tl vs xs) : ∀ {i : Nat} {v : Value}, vs[i]? = some v →
    ∃ a n u1 u2 u3 x, v = .ref a ∧ xs[i]? = some x ∧ (a, ({ cls := .type "tuple", data := .seq #[.int x.1 u1, .int x.2.1 u2, .int x.2.2 u3] n } : Obj)) ∈ tl := by
  induction h with
  | nil => intro i v hv; simp at hv
  | cons h1 r ih =>
    intro i v hv
    cases i with
    | zero => simp at hv; exact ⟨_, _, _, _, _, _, hv.symm, rfl, h1⟩
    | succ i => simp only [List.getElem?_cons_succ] at hv ⊢; exact ih hv
/-- put in, or taken out -/
def toggle (xs : List (Int × Int × Int)) (x : Int × Int × Int) : List (Int × Int × Int) := xs.filter (fun y => y != x) ++ List.replicate (1 - xs.count x) x
end Mine
end PartM0

section PartM1a
open PySem PySem.W PyProof.Rows PySem.Spec PySem.Calls SeqAt
set_option linter.unusedVariables false
set_option maxRecDepth 100000
set_option maxHeartbeats 4000000
namespace Mine
abbrev triO (x : Int × Int × Int) (u1 u2 u3 : Tok) (n : Nat) : Obj := { cls := .type "tuple", data := .seq #[.int x.1 u1, .int x.2.1 u2, .int x.2.2 u3] n }
def triE (x y : Int × Int × Int) (j : Nat) : Bool := match j with | 0 => x.1 == y.1 | 1 => x.2.1 == y.2.1 | _ => x.2.2 == y.2.2
theorem triE_all (x y : Int × Int × Int) : (List.range (min 3 3)).all (triE x y) = (x == y) := by
  obtain ⟨x1, x2, x3⟩ := x
  obtain ⟨y1, y2, y3⟩ := y
  rw [Bool.eq_iff_iff]
  simp [List.range_succ, triE, and_assoc]
section
variable {A : Around} {s : Shared} {l b : Addr} {x y : Int × Int × Int} {u1 u2 u3 v1 v2 v3 : Tok} {n k : Nat}
theorem tri_at (hl : s.heap.get? l = some (triO x u1 u2 u3 n)) (hb : s.heap.get? b = some (triO y v1 v2 v3 k)) :
    ∀ j (h1 : j < (#[Value.int x.1 u1, .int x.2.1 u2, .int x.2.2 u3] : Array Value).size) (h2 : j < (#[Value.int y.1 v1, .int y.2.1 v2, .int y.2.2 v3] : Array Value).size), EqAt A s (#[Value.int x.1 u1, .int x.2.1 u2, .int x.2.2 u3] : Array Value)[j] (#[Value.int y.1 v1, .int y.2.1 v2, .int y.2.2 v3] : Array Value)[j] (triE x y j) := by
  intro j h1 h2
  match j, h1, h2 with
  | 0, _, _ => exact EqAt.int_int _ _ _ _
  | 1, _, _ => exact EqAt.int_int _ _ _ _
  | 2, _, _ => exact EqAt.int_int _ _ _ _
theorem tri_ne (hl : s.heap.get? l = some (triO x u1 u2 u3 n)) (hb : s.heap.get? b = some (triO y v1 v2 v3 k)) (hu : A.units < cLine) : RcNeAt A s (.ref l) (.ref b) (x != y) := by
  have h := RcNeAt.tuples (A := A) (s := s) ⟨_, hl, rfl, _, rfl⟩ ⟨_, hb, rfl, _, rfl⟩ hu (tri_at hl hb)
  have e : (!((List.range (min 3 3)).all (triE x y) && (3 == 3))) = (x != y) := by rw [triE_all]; simp [bne]
  rw [← e]; exact h
theorem tri_eq (hne : l ≠ b) (hl : s.heap.get? l = some (triO x u1 u2 u3 n)) (hb : s.heap.get? b = some (triO y v1 v2 v3 k)) (hu : A.units < cLine) : EqAt A s (.ref l) (.ref b) (x == y) := by
  have h := RcAt.tuples (A := A) (s := s) ⟨_, hl, rfl, _, rfl⟩ ⟨_, hb, rfl, _, rfl⟩ hu (tri_at hl hb)
  have e : ((List.range (min 3 3)).all (triE x y) && (3 == 3)) = (x == y) := by rw [triE_all]; simp
  refine EqAt.of_refs hne ?_
  rw [← e]; exact h
end

/-- the name that a value tells in a heap -/
def nameAt (h : Heap) (v : Value) : Int × Int × Int := match v with
  | .ref a => (match h.get? a with
    | some o => (match o.data with
      | .seq items _ => (match items.toList with
        | [.int i _, .int j _, .int k _] => (i, j, k)
        | _ => (0, 0, 0))
      | _ => (0, 0, 0))
    | none => (0, 0, 0))
  | _ => (0, 0, 0)
theorem nameAt_of {h : Heap} {a : Addr} {x : Int × Int × Int} {u1 u2 u3 : Tok} {n : Nat} (e : h.get? a = some (triO x u1 u2 u3 n)) : nameAt h (.ref a) = x := by
  unfold nameAt
  dsimp only
  rw [e]
theorem Names.map {tl : List (Addr × Obj)} {h : Heap} (hh : ∀ q ∈ tl, h.get? q.1 = some q.2) : ∀ {vs xs}, Names tl vs xs → vs.map (nameAt h) = xs
  | _, _, .nil => rfl
  | _, _, .cons h1 r => by
    rw [List.map_cons, Names.map hh r]
    congr 1
    exact nameAt_of (hh _ h1)
theorem Names.filter {tl : List (Addr × Obj)} {h : Heap} (hh : ∀ q ∈ tl, h.get? q.1 = some q.2) (f : Int × Int × Int → Bool) : ∀ {vs xs}, Names tl vs xs → Names tl (vs.filter (fun v => f (nameAt h v))) (xs.filter f)
  | _, _, .nil => .nil
  | _, _, .cons (a := a) h1 r => by
    have e := nameAt_of (hh _ h1)
    rw [List.filter_cons, List.filter_cons, e]
    split
    · exact .cons h1 (Names.filter hh f r)
    · exact Names.filter hh f r
theorem Names.count {tl : List (Addr × Obj)} {h : Heap} (hh : ∀ q ∈ tl, h.get? q.1 = some q.2) (x : Int × Int × Int) : ∀ {vs xs}, Names tl vs xs → vs.countP (fun v => nameAt h v == x) = xs.count x
  | _, _, .nil => rfl
  | _, _, .cons (a := a) h1 r => by
    have e := nameAt_of (hh _ h1)
    rw [List.countP_cons, List.count_cons, Names.count hh x r, e]
end Mine
end PartM1a

section PartM1b
open PySem PySem.W PyProof.Rows PySem.Spec PySem.Calls SeqAt
set_option linter.unusedVariables false
set_option maxRecDepth 100000
set_option maxHeartbeats 4000000
namespace Mine
theorem paired_id {l₁ l₂ : List Value} (h : Paired (fun v y => y = v) l₁ l₂) : l₂ = l₁ := by
  induction h with
  | nil => rfl
  | cons h1 _ ih => rw [h1, ih]
section
variable {w : World} {A : Around} {E : Value → Shared → Prop} {s : Shared} {h₀ : Heap} {L fa : Addr} {cd : Value} {m : Str → Option Value} {sc : Scope}
theorem due_comp {p1 p2 p3 p4 p5 px pos : Pos} {scope : Scope} {d a : Addr} {ws : List Value} {n : Nat} {oc : Obj} {x : Int × Int × Int} {u1 u2 u3 : Tok} {na : Nat} {tl news : List (Addr × Obj)} {xs : List (Int × Int × Int)} {Q : Value → Shared → Prop}
    (hh : A.handled = none) (hu : A.units < cLine) (F : Fr h₀ L s.heap m) (N : News h₀ L s.heap news) (hd : s.heap.get? d = some (listOf ws.toArray n)) (md : m "due" = some (.ref d))
    (hoc : s.heap.get? (L + 1) = some oc) (hocd : oc.data = .cell (some (.ref a))) (ha : s.heap.get? a = some (triO x u1 u2 u3 na)) (hT : ∀ q ∈ tl, s.heap.get? q.1 = some q.2) (hw : Names tl ws xs) (hlen : ws.length ≤ 2000)
    (hclos : closureFor scope (envOfC "law" sc L fa cd) = pure [(("name" : Str), L + 1)]) (hcell : ∀ y ∈ scope.names, y.2 ≠ .cell) (hkind : scope.kind = .function) (hnames : ∀ y ∈ scope.names, y.2 = .local → scope.names.lookup y.1 = some .local) (hx : scope.names.lookup ("one" : Str) = some .local)
    (hk1 : (envOfC "law" sc L fa cd).scope.kind = .function) (hk2 : (envOfC "law" sc L fa cd).kindOf "due" = some .local)
    (hc1 : ∀ C, (compEnvC scope [(("name" : Str), L + 1)] C (envOfC "law" sc L fa cd)).kindOf "one" = some .local) (hc2 : ∀ C, (compEnvC scope [(("name" : Str), L + 1)] C (envOfC "law" sc L fa cd)).kindOf "name" = some .cell)
    (h : ∀ D h' tk n', s.heap.get? D = none → Fr h₀ L h' m → News h₀ L h' ((D, listOf (ws.filter fun v => nameAt s.heap v != x).toArray n') :: news) → Q (.ref D) { s with heap := h', toks := tk }) :
    wpAny (model prg w) A (eval (.ListComp (.Name "one" p1) [⟨.Name "one" px, .Name "due" p2, [.Compare (.Name "one" p3) [.NotEq] [.Name "name" p4] p5], 0⟩] scope pos) (envOfC "law" sc L fa cd)) Q E s := by
  refine wpAny_ListComp_free (cl := [(("name" : Str), L + 1)]) (fun v => nameAt s.heap v != x) (fun v y => y = v) hclos hcell hkind hnames hx ?_ (by intro _; rfl)
  refine nmL F.ns md ?_ hk1 hk2
  have hl : s.heap.IsList d ws.toArray := ⟨_, hd, rfl, _, rfl⟩
  refine seq_iter hh (.inl hl) (fun it St o e W hSt => ?_)
  subst e
  have hlt := Heap.lt_size hd
  refine ⟨_, _, _, _, _, St, rfl, W, by rw [sizeLine_eq, List.size_toArray]; omega, hSt, fun b hb => ?_, ⟨?_, ?_⟩, ?_⟩
  · show b < (s.heap.push o).objs.size
    rw [Heap.size_push]
    rcases List.mem_cons.mp hb with rfl | hb
    · exact Nat.lt_succ_self _
    · rw [List.mem_singleton.mp hb]; exact Nat.lt_succ_of_lt hlt
  · intro C i v s₃ m₃ E' hC hv hn hm hk htk
    have hold : ∀ b ob, s.heap.get? b = some ob → s₃.heap.get? b = some ob := fun b ob e => hk b ob (fun hb => by
      rw [List.mem_singleton.mp hb] at e; exact Nat.lt_irrefl _ (Heap.lt_size e)) (Heap.get?_push_of_some _ e)
    obtain ⟨ai, ni, v1, v2, v3, y, rfl, hy, hmem⟩ := Names.at9 hw (by simpa using hv)
    have hai := hT _ hmem
    simp only [List.forIn_cons, List.forIn_nil, if_true]
    refine wpAny_bind (wpAny_bind (wpAny_isTrue_Compare1 ?_ rfl))
    refine nmL (m := m₃) hn hm ?_ hkind (hc1 C)
    refine wpAny_Name (wpAny_loadName_cell hkind (hc2 C) rfl ⟨oc, hold _ _ hoc, hocd⟩ ?_) (by decide)
    show wpAny _ _ (richCompare .NotEq _ _) _ _ _
    refine tri_ne (hold _ _ hai) (hold _ _ ha) hu _ _ _ _ (wpAny_truthy_bool ?_)
    refine wpAny_pure (wpAny_pure ⟨?_, s₃.heap, s₃.toks, rfl, fun _ _ e => e⟩)
    show _ = (nameAt s.heap (.ref ai) != x)
    rw [nameAt_of hai]
  · intro C i v s₃ m₃ E' hC hv _ hn hm hk htk
    exact nmL (m := m₃) hn hm ⟨rfl, s₃.heap, s₃.toks, rfl, fun _ _ e => e⟩ hkind (hc1 C)
  · intro D h' tk ys vs hD _ hpl hlen' hPv hG hk
    have hvs : vs = ws := List.ext_getElem? fun j => by
      by_cases hj : j < vs.length
      · have : ws[j]? = some vs[j] := by simpa using hPv j vs[j] (by simp [hj])
        rw [this]; simp [hj]
      · have hlen2 : vs.length = ws.length := by simpa using hlen'
        rw [List.getElem?_eq_none (by omega), List.getElem?_eq_none (by omega)]
    rw [hvs] at hG
    have hG' := paired_id hG
    have hD' : s.heap.get? D = none := by
      cases hq : s.heap.get? D with
      | none => rfl
      | some q => have := Heap.get?_push_of_some o hq; rw [hD] at this; cases this
    have st : s.heap.StaysIn h' := fun b ob e => hk b ob (fun hm => by
      rw [List.mem_singleton.mp hm] at e; exact Nat.lt_irrefl _ (Heap.lt_size e)) (Heap.get?_push_of_some _ e)
    obtain ⟨n', hpl⟩ := hpl
    refine h D h' tk n' hD' (Fr.grow F st) (News.add F N st ?_ hD')
    rw [hpl, ← hG']
end
end Mine
end PartM1b

section PartM1c
open PySem PySem.W PyProof.Rows PySem.Spec PySem.Calls SeqAt
set_option linter.unusedVariables false
set_option maxRecDepth 100000
set_option maxHeartbeats 4000000
namespace Mine
section
variable {w : World} {prog : Program} {A : Around} {E : Value → Shared → Prop} {s : Shared} {d a : Addr} {ws : List Value} {n na : Nat} {x : Int × Int × Int} {u1 u2 u3 : Tok} {tl : List (Addr × Obj)} {xs : List (Int × Int × Int)}
theorem getm_count {pl : Sem Bool} {Q : Value × List Value → Shared → Prop} (hl : s.heap.get? d = some (listOf ws.toArray n)) (h : Q (.builtin "list.count", [.ref d]) s) :
    wpAny (model prog w) A (getMethod (.ref d) "count" pl) Q E s :=
  getMethod_builtin (T := "list") ⟨_, hl, rfl⟩ PySem.F.plainAttrs_list PySem.F.slot_list_count PySem.F.type_list_count (fun a e => by cases e; exact ⟨_, hl, rfl⟩) h
theorem count_names {Q : Value → Shared → Prop} (hl : s.heap.get? d = some (listOf ws.toArray n)) (ha : s.heap.get? a = some (triO x u1 u2 u3 na)) (hT : ∀ q ∈ tl, s.heap.get? q.1 = some q.2 ∧ q.1 ≠ a) (hw : Names tl ws xs) (hu : A.units + 5 < cLine)
    (h : Q (.int (xs.count x : Nat) s.toks) { s with toks := s.toks + 1 }) : wpAny (model prog w) A (call (.builtin "list.count") [.ref d, .ref a]) Q E s := by
  refine call_meets PySem.F.slot_list_count ⟨_, hl, rfl⟩ PySem.F.entry_list_count (PySem.F.args_list_count_2 _ _) (list_countAt d ws.toArray n none #[] (.ref a) (fun v => nameAt s.heap v == x)) ⟨hl, fun y hy => ?_, ?_⟩
  · have hy' : y ∈ ws := by simpa using hy
    obtain ⟨i, hi⟩ := List.mem_iff_getElem?.mp hy'
    obtain ⟨ai, ni, v1, v2, v3, z, rfl, hz, hmem⟩ := Names.at9 hw hi
    have hai := hT _ hmem
    rw [nameAt_of hai.1]
    exact tri_eq hai.2 hai.1 ha (by show A.units + _ < cLine; omega)
  · rw [show ws.toArray.toList = ws from rfl, Names.count (fun q hq => (hT q hq).1) x hw]
    exact h
end
end Mine
end PartM1c

section PartM1
open PySem PySem.W PyProof.Rows PySem.Spec PySem.Calls
set_option linter.unusedVariables false
set_option maxRecDepth 100000
set_option maxHeartbeats 4000000
namespace Mine
theorem filledm1 : (PySem.Challenge.rw_ij0006_01, hd.heap_39) = (PySem.Challenge.rw_ij0006_01, hd.heap_39) := by k_fill; rfl
section
local macro_rules | `(tactic| walk_at "call ref") => `(tactic| (refine Stop.out ?_))
local macro_rules | `(tactic| walk_at "pyIter ref") => `(tactic| (refine Stop.out ?_))
local macro_rules | `(tactic| walk_at "storeName") => `(tactic| (refine Stop.out ?_))
local macro_rules | `(tactic| walk_at "call builtin:list.count") => `(tactic| (refine Stop.out ?_))
local macro_rules | `(tactic| walk_at "eval ListComp") => `(tactic| (refine Stop.out ?_))
local macro_rules | `(tactic| walk_at "binaryOp Mult ref int") => `(tactic| (refine Stop.out ?_))
local macro_rules | `(tactic| walk_at "binaryOp Add ref ref") => `(tactic| (refine Stop.out ?_))
local macro_rules | `(tactic| walk_at "eval Name") => `(tactic| ((with_reducible show wpAny _ _ (eval (Expr.Name ("name" : Str) _) _) _ _ _); refine Stop.out ?_))
set_option pp.deepTerms false
set_option pp.maxSteps 3000
theorem toggle_len (xs : List (Int × Int × Int)) (x : Int × Int × Int) : (toggle xs x).length ≤ xs.length + 1 := by
  unfold toggle
  rw [List.length_append, List.length_replicate]
  have q := List.length_filter_le (fun y => y != x) xs
  omega
theorem Names.rep {tl : List (Addr × Obj)} {a : Addr} {x : Int × Int × Int} {u1 u2 u3 : Tok} {n : Nat} (h : (a, triO x u1 u2 u3 n) ∈ tl) : ∀ k, Names tl (List.replicate k (.ref a)) (List.replicate k x)
  | 0 => .nil
  | k + 1 => .cons h (Names.rep h k)
/-- what a turn of the inner loop does -/
def stepDue (place share value step : Int) (later : Nat) (xs : List (Int × Int × Int)) (i : Nat) : List (Int × Int × Int) :=
  if Builtin.bitAnd (i : Int) ((later : Int) - i) = 0 then toggle xs (nameOf3 (place + i * step) share value) else xs
theorem stepDue_len (place share value step : Int) (later : Nat) : ∀ (l : List Nat) (xs : List (Int × Int × Int)), (l.foldl (stepDue place share value step later) xs).length ≤ xs.length + l.length
  | [], xs => by simp
  | i :: l, xs => by
    have h := stepDue_len place share value step later l (stepDue place share value step later xs i)
    rw [List.foldl_cons, List.length_cons]
    have h2 : (stepDue place share value step later xs i).length ≤ xs.length + 1 := by
      unfold stepDue
      split
      · exact toggle_len _ _
      · omega
    omega
theorem inner_loop {w : World} {L fa : Addr} {cd : Value} {s : Shared} {h₀ : Heap} {p : Program} {loose : List Str} {mean : ExcName → Option Value} {mg mb : Str → Option Value} {m : Str → Option Value} {E : Value → Shared → Prop}
    (B : Below callerA h₀ [] h₀) (X : (hd.heap_39 w.params).In h₀) (T : Top p loose mean mg mb h₀)
    (place share value step : Int) (later : Nat) (hj : 0 ≤ share ∧ share ≤ 8) (hk : 0 ≤ value ∧ value ≤ 4) (hl : later ≤ 7) (hpl : 0 ≤ place ∧ place < 96) (hst : 0 ≤ step ∧ step < 96) (t1 t2 t3 t4 t5 : Tok)
    (mp : m "place" = some (.int place t1)) (ms : m "share" = some (.int share t2)) (mv : m "value" = some (.int value t3)) (mt : m "step" = some (.int step t4)) (ml : m "later" = some (.int later t5))
    (d0 : Addr) (md : m "due" = some (.ref d0)) (ws : List Value) (n : Nat) (xs : List (Int × Int × Int)) (oc : Obj) (tl0 rest : List (Addr × Obj)) (hw : Names tl0 ws xs) (hlen : xs.length ≤ 600)
    (cv : Option Value) (hoc : oc.data = .cell cv) (hcr : ∀ q ∈ rest, q.1 ≠ L + 1) (hct : ∀ q ∈ tl0, q.1 ≠ L + 1)
    (F : Fr h₀ L s.heap m) (N : News h₀ L s.heap ((L + 1, oc) :: (d0, listOf ws.toArray n) :: (tl0 ++ rest))) (ht : 1 ≤ s.toks) :
   ∀ b sc, lawOf (hd.heap_39 w.params) = some (b, sc) → ∀ (Q : Flow → Shared → Prop),
     (∀ h' tk m' d' ws' n' oc' tl' cv', 1 ≤ tk → Fr h₀ L h' m' → News h₀ L h' ((L + 1, oc') :: (d', listOf (List.toArray ws') n') :: (tl' ++ rest)) → oc'.data = .cell cv' → (∀ q ∈ tl', q.1 ≠ L + 1) → (d' = d0 ∨ ∀ r ∈ rest, d' ≠ r.1) → (∀ q ∈ tl', q ∈ tl0 ∨ ∀ r ∈ rest, q.1 ≠ r.1) →
        (∀ y, y ≠ ("due" : Str) → y ≠ ("steps" : Str) → m' y = m y) → m' "due" = some (.ref d') →
        Names tl' ws' ((List.range (later + 1)).foldl (stepDue place share value step later) xs) → Q .next { s with heap := h', toks := tk }) →
     wpAny (model prg w) (callerA.deeper (envOfC "law" sc L fa cd)) (exec (at4 (forBody (at4 b))) (envOfC "law" sc L fa cd)) Q E s := by
  refine' law_start ?k6 ?_
  case k6 => k_is
  intro Q hQ
  dsimp only [at4, forBody]
  have hall := all_cons mp (all_cons ms (all_cons mv (all_cons mt (all_cons ml (all_cons md all_nil)))))
  have F0 := fr_knows _ F hall
  dsimp only [know] at F0
  clear F
  refine For_T h₀ rfl rfl (with_toks ?_) (by intro _; rfl)
  k_steps
  refine Stop.on ?_
  (rename Fr _ _ _ _ => F1)
  (rename News _ _ _ _ => N1)
  (rename IsRange _ _ _ _ _ _ _ _ => R1)
  (rename 1 ≤ _ → 1 ≤ _ => htk0)
  have hT1 := htk0 ht
  refine range_T (n := later + 1) (fun i m' news' => ∃ d ws n oc tl cv, news' = (L + 1, oc) :: (d, listOf (List.toArray ws) n) :: (tl ++ rest) ∧ oc.data = .cell cv ∧ (∀ q ∈ tl, q.1 ≠ L + 1) ∧ (d = d0 ∨ ∀ r ∈ rest, d ≠ r.1) ∧ (∀ q ∈ tl, q ∈ tl0 ∨ ∀ r ∈ rest, q.1 ≠ r.1) ∧ (∀ y, y ≠ ("due" : Str) → y ≠ ("steps" : Str) → m' y = m y) ∧ m' "due" = some (.ref d) ∧
    Names tl ws ((List.range i).foldl (stepDue place share value step later) xs)) rfl R1 (by omega) F1 N1 hT1 ?_ ?_ ?_
  · exact ⟨d0, ws, n, oc, tl0, cv, rfl, hoc, hct, .inl rfl, fun q hq => .inl hq, fun y h1 h2 => congrFun (know_eq hall) y, rfl, hw⟩
  · rintro i t m₁ news₁ h tk own I hi ⟨d, ws, n, oc, tl, cv, rfl, hoc, hct, hd0, htl0, hsame, hmd, hw⟩ htk hnI hI hown hIs F N
    clear F1 N1 R1
    have ks : ∀ {y : Str} {v : Value}, m y = some v → decide (y = ("steps" : Str)) = false → decide (y = ("due" : Str)) = false → m₁ y = some v := fun {y v} e h1 h2 => by
      rw [hsame y (of_decide_eq_false h2) (of_decide_eq_false h1)]; exact e
    have e9 := know_eq (all_cons (ks mp (by decide) (by decide)) (all_cons (ks ms (by decide) (by decide)) (all_cons (ks mv (by decide) (by decide)) (all_cons (ks mt (by decide) (by decide)) (all_cons (ks ml (by decide) (by decide)) (all_cons hmd all_nil))))))
    rw [← e9] at F
    dsimp only [know] at F
    dsimp only
    k_steps
    refine Stop.on ?_
    have hm := N (L + 1, oc) (List.mem_append_right _ (.head _))
    refine use_ctr (name_ctr _ _ _ _ _ _ hj hk) B F X T rfl (by intro e; cases e) (by decide) (by decide) trivial ?_
    rintro _ h2 tk2 st2 ht2 ⟨a, na, u1, u2, u3, rfl, ha, hfr⟩
    have ht2' : 1 ≤ tk2 := ht2 (by (try dsimp only); omega)
    have F2 := Fr.grow F st2
    have N2 := News.add F N st2 ha hfr
    have hac : a ≠ L + 1 := fun e => by
      dsimp only at hm hfr
      rw [e, hm.1] at hfr; cases hfr
    have hdc : d ≠ L + 1 := fun e => by
      have q := (N (d, listOf ws.toArray n) (List.mem_append_right _ (.tail _ (.head _)))).1
      dsimp only at hm q
      rw [e, hm.1] at q; cases q; cases hoc
    have hoI : ∀ q ∈ own, q.1 ≠ L + 1 := fun q hq e => hnI (L + 1, oc) (.head _) (by rw [← hown q hq]; exact e.symm)
    have haI : a ≠ I := fun e => by
      obtain ⟨oI, hoI'⟩ := hI
      have q := (N _ (List.mem_append_left _ hoI')).1
      dsimp only at q hfr
      rw [e, q] at hfr; cases hfr
    have hat : ∀ q ∈ tl, a ≠ q.1 := fun q hq e => by
      have q2 := (N q (List.mem_append_right _ (.tail _ (.tail _ (List.mem_append_left _ hq))))).1
      dsimp only at q2 hfr
      rw [e, q2] at hfr; cases hfr
    have har : ∀ r ∈ rest, a ≠ r.1 := fun q hq e => by
      have q2 := (N q (List.mem_append_right _ (.tail _ (.tail _ (List.mem_append_right _ hq))))).1
      dsimp only at q2 hfr
      rw [e, q2] at hfr; cases hfr
    have htl1 : ∀ x : Obj, ∀ q ∈ (a, x) :: tl, q ∈ tl0 ∨ ∀ r ∈ rest, q.1 ≠ r.1 := fun x q hq => by
      rcases List.mem_cons.mp hq with rfl | hq
      · exact .inr har
      · exact htl0 q hq
    clear ht2 F N hm
    dsimp only
    k_steps
    refine Stop.on ?_
    refine stCN (own := (a, _) :: own) F2 N2 rfl hoc (fun q hq => ?_) (fun q hq => ?_) ?_
    · rcases List.mem_cons.mp hq with rfl | hq
      · exact hac
      · exact hoI q hq
    · rcases List.mem_cons.mp hq with rfl | hq
      · exact hdc
      · rcases List.mem_append.mp hq with hq | hq
        · exact hct q hq
        · exact hcr q hq
    intro h3 oc3 F3 N3 hoc3
    clear F2 N2
    dsimp only
    k_steps
    · refine Stop.on ?_
      have m1 : (a, triO (nameOf3 (place + i * step) share value) u1 u2 u3 na) ∈ (a, triO (nameOf3 (place + i * step) share value) u1 u2 u3 na) :: own ++ (L + 1, oc3) :: (d, listOf ws.toArray n) :: (tl ++ rest) := .head _
      have g1 := (N3 _ m1).1
      have g2 := (N3 (L + 1, oc3) (List.mem_append_right _ (.head _))).1
      have g3 := (N3 (d, listOf ws.toArray n) (List.mem_append_right _ (.tail _ (.head _)))).1
      have g4 : ∀ q ∈ tl, h3.get? q.1 = some q.2 := fun q hq => (N3 q (List.mem_append_right _ (.tail _ (.tail _ (List.mem_append_left _ hq))))).1
      refine due_comp (d := d) (a := a) (ws := ws) rfl (show callerA.units + 3 < cLine by decide) F3 N3 g3 rfl g2 hoc3 g1 g4 hw ?_ rfl (by decide) rfl (by decide) (by decide) rfl rfl (fun _ => rfl) (fun _ => rfl) ?_
      · have q := Names.length hw
        have q2 := stepDue_len place share value step later (List.range i) xs
        rw [List.length_range] at q2
        omega
      intro D1 h4 tk4 n4 hD1 F4 N4
      clear F3
      dsimp only
      k_steps
      refine Stop.on ?_
      have c4 := (N4 (L + 1, oc3) (.tail _ (List.mem_append_right _ (.head _)))).1
      refine ldCN N4 rfl (List.mem_cons_of_mem _ (List.mem_append_right _ (.head _))) hoc3 ?_ rfl rfl (by decide)
      k_steps
      refine Stop.on ?_
      (rename Fr _ _ _ _ => F5)
      (rename News _ _ _ _ => N5)
      have d5 := (N5 (d, listOf ws.toArray n) (by simp)).1
      have a5 := (N5 (a, triO (nameOf3 (place + i * step) share value) u1 u2 u3 na) (by simp)).1
      have t5 : ∀ q ∈ tl, _ ∧ q.1 ≠ a := fun q hq => And.intro (N5 q (by simp [hq])).1 (hat q hq).symm
      refine getm_count d5 ?_
      k_steps
      refine Stop.on ?_
      refine ldCN (o := oc3) (c := L + 1) N5 rfl (by simp) hoc3 ?_ rfl rfl (by decide)
      k_steps
      refine Stop.on ?_
      refine count_names d5 a5 t5 hw (show callerA.units + 3 + 5 < cLine by decide) ?_
      k_steps
      refine Stop.on ?_
      have q2 := stepDue_len place share value step later (List.range i) xs
      rw [List.length_range] at q2
      have q3 := Names.length hw
      have q4 : List.count (nameOf3 (place + i * step) share value) ((List.range i).foldl (stepDue place share value step later) xs) ≤ _ := List.count_le_length
      refine KMa.mul F5 N5 ⟨_, (N5 _ (.head _)).1, rfl, _, rfl⟩ (by omega) (by omega) (ws := List.replicate (1 - List.count (nameOf3 (place + i * step) share value) ((List.range i).foldl (stepDue place share value step later) xs)) (.ref a)) ?_ ?_ ?_
      · show 1 * _ ≤ 256
        omega
      · rw [show (1 - (List.count (nameOf3 (place + i * step) share value) ((List.range i).foldl (stepDue place share value step later) xs) : Int)).toNat = 1 - List.count (nameOf3 (place + i * step) share value) ((List.range i).foldl (stepDue place share value step later) xs) by omega]
        exact List.flatten_replicate_singleton
      intro D2 h6 F6 N6 hD2
      k_steps
      refine Stop.on ?_
      have q5 := List.length_filter_le (fun v => nameAt h3 v != nameOf3 (place + i * step) share value) ws
      have e1 : h6.IsList D1 (ws.filter fun v => nameAt h3 v != nameOf3 (place + i * step) share value).toArray := ⟨_, (N6 (D1, listOf (ws.filter fun v => nameAt h3 v != nameOf3 (place + i * step) share value).toArray n4) (.tail _ (.tail _ (.head _)))).1, rfl, _, rfl⟩
      have e2 : h6.IsList D2 (List.replicate (1 - List.count (nameOf3 (place + i * step) share value) ((List.range i).foldl (stepDue place share value step later) xs)) (Value.ref a)).toArray := ⟨_, (N6 _ (.head _)).1, rfl, _, rfl⟩
      refine add_lists F6 N6 e1 e2 ?_ (by rw [sizeLine_eq, List.length_replicate]; omega)
      intro h7 F7 N7
      k_steps
      refine Stop.on ?_
      refine stLocN F7 N7 ?_ rfl rfl
      intro h8 F8 N8
      k_steps
      have mI : ∀ y, y ≠ ("due" : Str) → y ≠ ("steps" : Str) → _ = m y := fun y h1 h2 => (congrFun e9 y).trans (hsame y h1 h2)
      refine TurnEnd.intro (news₂ := (L + 1, oc3) :: (h6.objs.size, listOf (ws.filter (fun v => nameAt h3 v != nameOf3 (place + i * step) share value) ++ List.replicate (1 - List.count (nameOf3 (place + i * step) share value) ((List.range i).foldl (stepDue place share value step later) xs)) (Value.ref a)).toArray 0) :: (((a, triO (nameOf3 (place + i * step) share value) u1 u2 u3 na) :: tl) ++ rest)) F8
        (News.sub N8 fun p hp => ?_) (fun p hp => ?_) ⟨_, _, _, _, _, _, rfl, hoc3, ?_, .inr (fun r hr => (Nat.ne_of_lt (Heap.lt_size (N6 r (by simp [hr])).1)).symm), htl1 _, ?_, rfl, ?_⟩
      · simp only [List.mem_append, List.mem_cons, List.cons_append] at hp ⊢
        rcases hp with hp | hp | hp | hp | hp | hp <;> simp [hp]
      · simp only [List.mem_append, List.mem_cons, List.cons_append] at hp
        rcases hp with hp | hp | hp | hp | hp
        · rw [hp]; exact hnI (L + 1, oc) (.head _)
        · rw [hp]
          obtain ⟨oI, hoI'⟩ := hI
          exact (Nat.ne_of_lt (Heap.lt_size (N6 (I, oI) (by simp [hoI'])).1)).symm
        · rw [hp]; exact haI
        · exact hnI _ (.tail _ (.tail _ (List.mem_append_left _ hp)))
        · exact hnI _ (.tail _ (.tail _ (List.mem_append_right _ hp)))
      · intro q hq
        rcases List.mem_cons.mp hq with rfl | hq
        · exact hac
        · exact hct q hq
      · intro y h1 h2
        dsimp only
        rw [if_neg h1, if_neg h2]
        exact mI y h1 h2
      · rw [List.range_succ, List.foldl_append, List.foldl_cons, List.foldl_nil]
        unfold stepDue
        rw [if_pos (by assumption)]
        unfold toggle
        refine Names.append (Names.mono (fun p hp => .tail _ hp) (Names.filter g4 (fun y => y != nameOf3 (place + i * step) share value) hw)) (Names.rep (.head _) _)
    · have mI : ∀ y, y ≠ ("due" : Str) → y ≠ ("steps" : Str) → _ = m y := fun y h1 h2 => (congrFun e9 y).trans (hsame y h1 h2)
      refine TurnEnd.intro (news₂ := (L + 1, oc3) :: (d, listOf ws.toArray n) :: (((a, triO (nameOf3 (place + i * step) share value) u1 u2 u3 na) :: tl) ++ rest)) F3
        (News.sub N3 fun p hp => ?_) (fun p hp => ?_) ⟨_, _, _, _, _, _, rfl, hoc3, ?_, hd0, htl1 _, ?_, rfl, ?_⟩
      · simp only [List.mem_append, List.mem_cons, List.cons_append] at hp ⊢
        rcases hp with hp | hp | hp | hp | hp | hp <;> simp [hp]
      · simp only [List.mem_append, List.mem_cons, List.cons_append] at hp
        rcases hp with hp | hp | hp | hp | hp
        · rw [hp]; exact hnI (L + 1, oc) (.head _)
        · rw [hp]; exact hnI (d, listOf ws.toArray n) (.tail _ (.head _))
        · rw [hp]; exact haI
        · exact hnI _ (.tail _ (.tail _ (List.mem_append_left _ hp)))
        · exact hnI _ (.tail _ (.tail _ (List.mem_append_right _ hp)))
      · intro q hq
        rcases List.mem_cons.mp hq with rfl | hq
        · exact hac
        · exact hct q hq
      · intro y h1 h2
        dsimp only
        rw [if_neg h2]
        exact mI y h1 h2
      · rw [List.range_succ, List.foldl_append, List.foldl_cons, List.foldl_nil]
        unfold stepDue
        rw [if_neg (by assumption)]
        exact Names.mono (fun p hp => .tail _ hp) hw
  · rintro h' tk m' news' htk F' N' ⟨d, ws, n, oc, tl, cv, rfl, hoc, hct, hd0, htl0, hsame, hmd, hw⟩
    exact hQ h' tk m' d ws n oc tl cv htk F' N' hoc hct hd0 htl0 hsame hmd hw
end
end Mine
end PartM1

section PartM2
open PySem PySem.W PyProof.Rows PySem.Spec PySem.Calls
set_option linter.unusedVariables false
set_option maxRecDepth 100000
set_option maxHeartbeats 4000000
namespace Mine
section
variable {w : World} {d u dd uu : Nat} {s : Shared} {h₀ : Heap} {p : Program} {loose : List Str} {mean : ExcName → Option Value} {mg mb : Str → Option Value}
  {f L : Addr} {args : List Value} {H : World → Shared → Prop} {P : World → Heap → Heap → Value → Prop} {env : Env} {m : Str → Option Value} {Q E : Value → Shared → Prop} {gd : Option (List Code)}
/-- a contract that turns frames, used by the topmost def -/
theorem use_ctrT0 (C : CtrT d u f args H P) (F : Fr h₀ L s.heap m) (X : (hd.heap_39 w.params).In h₀) (T : Top p loose mean mg mb h₀)
    (hf : env.frame = some L) (hk : env.scope.kind = .function) (hd : dd ≤ d) (hu : uu ≤ u) (hH : H w s)
    (h : ∀ v h' tk', (1 ≤ s.toks → 1 ≤ tk') → P w s.heap h' v → Fr h₀ L h' m → (∀ news, News h₀ L s.heap news → News h₀ L h' news) → Q v { s with heap := h', toks := tk' }) :
    wpAny (model prg w) { handled := none, depth := dd, frames := some [env], guards := gd, units := uu } (call (.ref f) args) Q E s := by
  have main : wpAny (model prg w) { handled := none, depth := dd, frames := some [env], guards := gd, units := uu } (call (.ref f) args) (fun v s' => (1 ≤ s.toks → 1 ≤ s'.toks) → Q v s') E s := by
   refine wpAny_call ?_
   have B0 : Below (CA d u []) h₀ [] h₀ := ⟨rfl, fun _ _ e => e, trivial⟩
   have B1 := pushX B0 F hf hk
   have hfs : framesOf [env] = [L] := by simp only [framesOf, List.filterMap_cons, hf, List.filterMap_nil]
   refine codeAny_le (C w h₀ [env] p loose mean mg mb s _ ⟨⟨rfl, B1.stays, B1.frames⟩, X, T⟩ hH (fun v h' tk' st hP => fun ht => ?_)) hd hu
   rw [hfs] at st
   have keep : ∀ b o, h₀.get? b = some o → h'.get? b = some o := fun b o e => st.1 b o (fun hb => by
     have hL : h₀.get? L = none := Heap.get?_none_of_le F.above
     rw [List.mem_singleton.mp hb, hL] at e; cases e) (F.keep b o e)
   refine h v h' tk' ht hP ⟨?_, keep, F.above⟩ (fun news N q hq => ⟨st.1 _ _ (fun hb => (N q hq).2.1 (List.mem_singleton.mp hb)) (N q hq).1, (N q hq).2⟩)
   obtain ⟨oL, es, ep, hL, hd, hk, hf⟩ := F.ns
   obtain ⟨sl, hs⟩ := st.2 L oL (.head _) hL
   exact ⟨_, es, ep, hs, hd, hk, hf⟩
  exact with_toks main
end

def fl8 (n : Int) : UInt64 := Float64.ofFrac (decide (n < 0) != decide ((8 : Int) < 0)) n.natAbs (Int.natAbs 8)
def fl4 (n : Int) : UInt64 := Float64.ofFrac (decide (n < 0) != decide ((4 : Int) < 0)) n.natAbs (Int.natAbs 4)
/-- what the floats must do for a drawn colour -/
structure DrawnOk (place share value c : Int) : Prop where
  fin6 : Float64.isFinite (Float64.mul (fl96 place) six) = true
  six' : 0 ≤ hsvI (fl96 place) ∧ hsvI (fl96 place) < 1000
  out : ∃ i j k, G512 (hsvR (fl96 place) (fl8 share) (fl4 value)).1 i ∧ G512 (hsvR (fl96 place) (fl8 share) (fl4 value)).2.1 j ∧ G512 (hsvR (fl96 place) (fl8 share) (fl4 value)).2.2 k ∧ c = (i * 1024 + j) * 1024 + k
theorem law_start2 {w : World} {P : List Stmt → Scope → Prop} {name qual : Str} {params : Arguments} {body : List Stmt} {scope : Scope} {dV kV doc pm cdv ct oc : Value} {an od : Option Addr} {osl : Array (Option Value)}
    (ho : (hd.heap_39 w.params).lookup 124 = some ⟨oc, od, .func (fnOf name qual params body scope dV kV doc pm an cdv ct), osl⟩) (hp : lawOf (hd.heap_39 w.params) = some (body, scope) → P body scope) : ∀ b' sc', lawOf (hd.heap_39 w.params) = some (b', sc') → P b' sc' := by
  intro b' sc' e
  have e' := e
  unfold lawOf at e
  rw [ho] at e
  cases e
  exact hp e'
/-- what is in one of both -/
def apart (xs ys : List Int) : List Int := xs.filter (fun k => !decide (k ∈ ys)) ++ ys.filter (fun k => !decide (k ∈ xs))
theorem apart_len (xs ys : List Int) : (apart xs ys).length ≤ xs.length + ys.length := by
  unfold apart
  have h1 := List.length_filter_le (fun k => !decide (k ∈ ys)) xs
  have h2 := List.length_filter_le (fun k => !decide (k ∈ xs)) ys
  rw [List.length_append]; omega
/-- what a turn of the outer loop does to the palette -/
def stepPal (f e : Int → Int) (x : Int) (pal : List Int) : List Int := apart (apart pal (pal.map f)) [e x]
def drawnP (x : Int) : Int := x.fmod 96
def drawnS (x : Int) : Int := 8 - (x.fdiv 96).fmod 9
def drawnV (x : Int) : Int := 4 - x.fdiv 864
/-- what a turn of the outer loop does to the names -/
def stepNames (row : List Int) (step : Int) (xs : List (Int × Int × Int)) (k : Nat) : List (Int × Int × Int) :=
  (List.range (row.length - 1 - k + 1)).foldl (stepDue (drawnP (row.getD k 0)) (drawnS (row.getD k 0)) (drawnV (row.getD k 0)) step (row.length - 1 - k)) xs
/-- the palette after i turns -/
def palAt (f e : Int → Int) (row : List Int) (i : Nat) : List Int := (List.range i).foldl (fun pal k => stepPal f e (row.getD k 0) pal) []
theorem palAt_succ (f e : Int → Int) (row : List Int) (i : Nat) : palAt f e row (i + 1) = stepPal f e (row.getD i 0) (palAt f e row i) := by
  unfold palAt
  rw [List.range_succ, List.foldl_append, List.foldl_cons, List.foldl_nil]
theorem palAt_len (f e : Int → Int) (row : List Int) : ∀ i, (palAt f e row i).length + 1 ≤ 2 ^ i
  | 0 => by simp [palAt]
  | i + 1 => by
    have h := palAt_len f e row i
    rw [palAt_succ, Nat.pow_succ]
    unfold stepPal
    have h1 := apart_len (palAt f e row i) ((palAt f e row i).map f)
    have h2 := apart_len (apart (palAt f e row i) ((palAt f e row i).map f)) [e (row.getD i 0)]
    rw [List.length_map] at h1
    simp only [List.length_cons, List.length_nil] at h2
    omega
theorem apart_mem {xs ys : List Int} {c : Int} (h : c ∈ apart xs ys) : c ∈ xs ∨ c ∈ ys := by
  unfold apart at h
  rcases List.mem_append.mp h with h | h
  · exact .inl (List.mem_filter.mp h).1
  · exact .inr (List.mem_filter.mp h).1
theorem palAt_good {f e : Int → Int} {row : List Int} {Gd : Int → Prop} (hG : ∀ c, Gd c → Gd (f c)) (hE : ∀ x ∈ row, Gd (e x)) : ∀ i, i ≤ row.length → ∀ c ∈ palAt f e row i, Gd c
  | 0, _, c, hc => by simp [palAt] at hc
  | i + 1, hi, c, hc => by
    have ih := palAt_good hG hE i (by omega)
    rw [palAt_succ] at hc
    rcases apart_mem hc with hc | hc
    · rcases apart_mem hc with hc | hc
      · exact ih c hc
      · obtain ⟨c', hc', rfl⟩ := List.mem_map.mp hc
        exact hG _ (ih c' hc')
    · rw [List.mem_singleton.mp hc]
      refine hE _ ?_
      rw [List.getD_eq_getElem?_getD, List.getElem?_eq_getElem (by omega), Option.getD_some]
      exact List.getElem_mem _
/-- the names after i turns -/
def namesAt (row : List Int) (step : Int) (i : Nat) : List (Int × Int × Int) := (List.range i).foldl (stepNames row step) []
theorem namesAt_succ (row : List Int) (step : Int) (i : Nat) : namesAt row step (i + 1) = stepNames row step (namesAt row step i) i := by
  unfold namesAt
  rw [List.range_succ, List.foldl_append, List.foldl_cons, List.foldl_nil]
theorem namesAt_len (row : List Int) (step : Int) (hn : row.length ≤ 8) : ∀ i, i ≤ row.length → (namesAt row step i).length ≤ 8 * i
  | 0, _ => by simp [namesAt]
  | i + 1, hi => by
    have h := namesAt_len row step hn i (by omega)
    rw [namesAt_succ]
    unfold stepNames
    have h2 := stepDue_len (drawnP (row.getD i 0)) (drawnS (row.getD i 0)) (drawnV (row.getD i 0)) step (row.length - 1 - i) (List.range (row.length - 1 - i + 1)) (namesAt row step i)
    rw [List.length_range] at h2
    omega
abbrev IsListL (h : Heap) (l : Addr) (ws : List Value) : Prop := h.IsList l ws.toArray
theorem after_new0 {g h h' : Heap} {L D : Addr} {m : Str → Option Value} {o : Obj} (F : Fr g L h m) (hD : h.get? D = none) (ho : h'.get? D = some o) {news : List (Addr × Obj)} (N : News g L h' news) : News g L h' ((D, o) :: news) := fun q hq => by
  rcases List.mem_cons.mp hq with rfl | hq
  · exact ⟨ho, (fresh_of F hD).2, (fresh_of F hD).1⟩
  · exact N q hq
end Mine
end PartM2

section PartM3
open PySem PySem.W PyProof.Rows PySem.Spec PySem.Calls
set_option linter.unusedVariables false
set_option maxRecDepth 100000
set_option maxHeartbeats 4000000
namespace Mine
theorem filledm3 : (PySem.Challenge.rw_ij0006_01, hd.heap_39) = (PySem.Challenge.rw_ij0006_01, hd.heap_39) := by k_fill; rfl
section
local macro_rules | `(tactic| walk_at "call ref") => `(tactic| (refine Stop.out ?_))
local macro_rules | `(tactic| walk_at "pyIter ref") => `(tactic| (refine Stop.out ?_))
local macro_rules | `(tactic| walk_at "exec For Name Call cons nil") => `(tactic| (refine Stop.out ?_))
local macro_rules | `(tactic| walk_at "subscriptTail") => `(tactic| (refine Stop.out ?_))
local macro_rules | `(tactic| walk_at "subscriptTail Name Name ref int") => `(tactic| (refine Stop.out ?_))
local macro_rules | `(tactic| walk_at "execs cons") => `(tactic| ((try dsimp only); (with_reducible show wpAny _ _ _ _ _ (Shared.mk _ _ _ (_ + _) _)); (refine gen_toks (by omega) ?_); intro tk htk))
set_option pp.deepTerms false
set_option pp.maxSteps 3000
theorem outer_loop {w : World} {L fa : Addr} {cd : Value} {s : Shared} {h₀ : Heap} {p : Program} {loose : List Str} {mean : ExcName → Option Value} {mg mb : Str → Option Value} {m : Str → Option Value} {E : Value → Shared → Prop}
    (B : Below callerA h₀ [] h₀) (X : (hd.heap_39 w.params).In h₀) (T : Top p loose mean mg mb h₀)
    (row : List Int) (step : Int) (f e : Int → Int) (Gd : Int → Prop) (hrow : ∀ x ∈ row, 0 ≤ x ∧ x < 4320) (hn : row.length ≤ 8) (hst : 0 ≤ step ∧ step < 96)
    (hG : ∀ c, Gd c → TurnOk c step (f c) ∧ Gd (f c)) (hE : ∀ x ∈ row, DrawnOk (drawnP x) (drawnS x) (drawnV x) (e x) ∧ Gd (e x))
    (t4 : Tok) (dr : Addr) (rs : List Value) (nr : Nat) (mr : m "row" = some (.ref dr)) (hrs : IntsAre rs row) (mt : m "step" = some (.int step t4))
    (dp np : Nat) (mp : m "palette" = some (.ref dp)) (dd nd : Nat) (md : m "due" = some (.ref dd)) (oc : Obj) (cv : Option Value) (hoc : oc.data = .cell cv)
    (F : Fr h₀ L s.heap m) (N : News h₀ L s.heap ((L + 1, oc) :: (dd, listOf #[] nd) :: (dp, listOf #[] np) :: (dr, listOf rs.toArray nr) :: [])) (ht : 1 ≤ s.toks) :
   ∀ b sc, lawOf (hd.heap_39 w.params) = some (b, sc) → ∀ (Q : Flow → Shared → Prop),
     (∀ h' tk m' dd' wd nd' dp' wp np' oc' tl cv', 1 ≤ tk → Fr h₀ L h' m' → News h₀ L h' ((L + 1, oc') :: (dd', listOf (List.toArray wd) nd') :: (tl ++ [(dp', listOf (List.toArray wp) np'), (dr, listOf rs.toArray nr)])) → oc'.data = .cell cv' → (∀ q ∈ tl, q.1 ≠ L + 1) →
        m' "palette" = some (.ref dp') → m' "due" = some (.ref dd') →
        IntsAre wp (palAt f e row row.length) → Names tl wd (namesAt row step row.length) → Q .next { s with heap := h', toks := tk }) →
     wpAny (model prg w) (callerA.deeper (envOfC "law" sc L fa cd)) (exec (at4 b) (envOfC "law" sc L fa cd)) Q E s := by
  refine' law_start2 ?k6 ?_
  case k6 => k_is
  intro hb' Q hQ
  dsimp only [at4]
  have hall := all_cons mr (all_cons mt (all_cons mp (all_cons md all_nil)))
  have F0 := fr_knows _ F hall
  dsimp only [know] at F0
  clear F
  refine For_T h₀ rfl rfl (with_toks ?_) (by intro _; rfl)
  k_steps
  refine Stop.on ?_
  (rename Fr _ _ _ _ => F1)
  (rename News _ _ _ _ => N1)
  (rename IsRange _ _ _ _ _ _ _ _ => R1)
  (rename 1 ≤ _ → 1 ≤ _ => htk0)
  have hT1 := htk0 ht
  have n1 := (N1 (L + 1, oc) (.head _)).1
  have hdp : dp ≠ L + 1 := fun e => by
    have q := (N1 (dp, listOf #[] np) (.tail _ (.tail _ (.head _)))).1
    dsimp only at q n1
    rw [e, n1] at q; cases q; cases hoc
  have hdr : dr ≠ L + 1 := fun e => by
    have q := (N1 (dr, listOf rs.toArray nr) (.tail _ (.tail _ (.tail _ (.head _))))).1
    dsimp only at q n1
    rw [e, n1] at q; cases q; cases hoc
  refine range_T (n := row.length) (fun i m' news' => ∃ dd wd nd dp wp np oc tl cv, news' = (L + 1, oc) :: (dd, listOf (List.toArray wd) nd) :: (tl ++ [(dp, listOf (List.toArray wp) np), (dr, listOf rs.toArray nr)]) ∧ oc.data = .cell cv ∧ (∀ q ∈ tl, q.1 ≠ L + 1) ∧
    dp ≠ L + 1 ∧ m' "row" = some (.ref dr) ∧ m' "step" = some (.int step t4) ∧ m' "palette" = some (.ref dp) ∧ m' "due" = some (.ref dd) ∧
    IntsAre wp (palAt f e row i) ∧ Names tl wd (namesAt row step i)) rfl R1 (by omega) F1 N1 hT1 ?_ ?_ ?_
  · exact ⟨dd, [], nd, dp, [], np, oc, [], cv, rfl, hoc, (fun _ h => nomatch h), hdp, rfl, rfl, rfl, rfl, .nil, .nil⟩
  · rintro i t m₁ news₁ h tk own I hi ⟨dd, wd, nd, dp, wp, np, oc, tl, cv, rfl, hoc, hct, hdp, hmr, hmt, hmp, hmd, hwp, hwd⟩ htk hnI hI hown hIs F N
    clear F1 N1 R1
    have hall2 := all_cons hmr (all_cons hmt (all_cons hmp (all_cons hmd all_nil)))
    have e9 := know_eq hall2
    rw [← e9] at F
    dsimp only [know] at F
    dsimp only
    k_steps
    refine Stop.on ?_
    have hlr := IntsAre.length hrs
    obtain ⟨v, hv⟩ : ∃ v, rs[i]? = some v := ⟨_, List.getElem?_eq_getElem (by omega)⟩
    obtain ⟨x, tx, hx, rfl⟩ := IntsAre.at9 hrs hv
    have hxd : row.getD i 0 = x := by rw [List.getD_eq_getElem?_getD, hx]; rfl
    have hxm : x ∈ row := List.mem_of_getElem? hx
    have hxr := hrow x hxm
    have hb1 : 0 ≤ x.fmod 96 ∧ x.fmod 96 < 96 := ⟨Int.fmod_nonneg_of_pos _ (by decide), Int.fmod_lt_of_pos _ (by decide)⟩
    have hb0 : 0 ≤ (x.fdiv 96).fmod 9 ∧ (x.fdiv 96).fmod 9 < 9 := ⟨Int.fmod_nonneg_of_pos _ (by decide), Int.fmod_lt_of_pos _ (by decide)⟩
    have hb2 : 0 ≤ 8 - (x.fdiv 96).fmod 9 ∧ 8 - (x.fdiv 96).fmod 9 ≤ 8 := by omega
    have hb3 : 0 ≤ 4 - x.fdiv 864 ∧ 4 - x.fdiv 864 ≤ 4 := by rw [Int.fdiv_eq_ediv_of_nonneg _ (by decide)]; omega
    have lr : h.IsList dr rs.toArray := ⟨_, (N (dr, listOf rs.toArray nr) (by simp)).1, rfl, _, rfl⟩
    refine item_list lr (by omega) (by omega) (by simpa using hv) ?_ rfl (by intro _; rfl)
    k_steps
    refine Stop.on ?_
    refine use_ctr (drawn_ctr _ _) B F X T rfl (by intro e; cases e) (by decide) (by decide) trivial ?_
    rintro _ h2 tk2 st2 ht2 ⟨a, na, u1, u2, u3, rfl, ha, hfr⟩
    have ht2' : 1 ≤ tk2 := ht2 (by (try dsimp only); omega)
    have F2 := Fr.grow F st2
    have N2 := News.add F N st2 ha hfr
    have hT2 : IsTup h2 a #[.int (x.fmod 96) u1, .int (8 - (x.fdiv 96).fmod 9) u2, .int (4 - x.fdiv 864) u3] := ⟨_, ha, rfl, _, rfl⟩
    clear ht2 F ha
    dsimp only
    k_steps
    refine Stop.on ?_
    (rename Fr _ _ _ _ => F3)
    (rename News _ _ _ _ => N3)
    have pl := palAt_len f e row i
    have pl2 : 2 ^ i ≤ 2 ^ 7 := Nat.pow_le_pow_right (by decide) (by omega)
    have pg := palAt_good (f := f) (e := e) (row := row) (Gd := Gd) (fun c h => (hG c h).2) (fun x h => (hE x h).2) i (by omega)
    have lp : IsListL _ dp wp := ⟨_, (N3 (dp, listOf wp.toArray np) (by simp)).1, rfl, _, rfl⟩
    refine use_ctr (turned_ctr dp wp _ step f t4 hwp (fun c hc => (hG c (pg c hc)).1) (by omega)) B F3 X T rfl (by intro e; cases e) (by decide) (by decide) ⟨by (try dsimp only); omega, lp⟩ ?_
    rintro _ h4 tk4 st4 ht4 ⟨D, wt, nt, rfl, hDn, hD, hwt⟩
    have ht4' : 1 ≤ tk4 := ht4 (by (try dsimp only); omega)
    have F4 := Fr.grow F3 st4
    have N4 := News.add F3 N3 st4 hD hDn
    have lp4 : IsListL h4 dp wp := ⟨_, (N4 (dp, listOf wp.toArray np) (List.mem_cons_of_mem _ (by simp))).1, rfl, _, rfl⟩
    clear ht4 F3 N3 lp hD
    dsimp only
    k_steps
    refine Stop.on ?_
    refine use_ctrT0 (apart_ctr dp D wp wt _ _ hwp hwt (by omega) (by rw [List.length_map]; omega)) F4 X T rfl rfl (by decide) (by decide) ⟨lp4, ⟨_, (N4 _ (.head _)).1, rfl, _, rfl⟩⟩ ?_
    rintro _ h5 tk5 ht5 ⟨d5, w5, n5, rfl, hd5n, hd5, hw5⟩ F5 N5
    have ht5' : 1 ≤ tk5 := ht5 (by (try dsimp only); omega)
    have N5' := after_new0 F4 hd5n hd5 (N5 _ N4)
    clear ht5 F4 N4 lp4 N5 hd5
    dsimp only
    k_steps
    all_goals first | (exfalso; omega) | skip
    refine Stop.on ?_
    have dk := (hE x hxm).1
    refine use_ctr (hsv_ctr _ _ _ _ _ _ dk.fin6 dk.six') B (by k_asm) X T rfl (by intro e; cases e) (by decide) (by decide) trivial ?_
    rintro _ h6 tk6 st6 ht6 ⟨a6, n6, v1, v2, v3, rfl, ha6⟩
    have ht6' : 1 ≤ tk6 := ht6 (by (try dsimp only); omega)
    (rename Fr _ _ _ _ => F5')
    (rename News _ _ _ _ => N5')
    have F6 := Fr.grow F5' st6
    have N6 := News.grow N5' st6
    clear ht6 F5' N5'
    obtain ⟨oi, oj, ok, hoi, hoj, hok, hout⟩ := dk.out
    dsimp only
    k_steps
    refine Stop.on ?_
    refine use_ctr (code_ctr a6 _ _ _ v1 v2 v3 oi oj ok hoi hoj hok) B F6 X T rfl (by intro e; cases e) (by decide) (by decide) ⟨_, ha6, rfl, _, rfl⟩ ?_
    rintro _ h7 tk7 st7 ht7 ⟨u7, rfl⟩
    have ht7' : 1 ≤ tk7 := ht7 (by (try dsimp only); omega)
    have F7 := Fr.grow F6 st7
    have N7 := News.grow N6 st7
    rw [← hout] at *
    clear ht7 F6 N6
    dsimp only
    k_steps
    refine Stop.on ?_
    (rename Fr _ _ _ _ => F8)
    (rename News _ _ _ _ => N8)
    have hx5 : IntsAre w5 (apart (palAt f e row i) ((palAt f e row i).map f)) := hw5
    have hal := apart_len (palAt f e row i) ((palAt f e row i).map f)
    rw [List.length_map] at hal
    refine use_ctrT0 (apart_ctr d5 _ w5 [.int (e x) u7] _ [e x] hx5 (.cons _ _ .nil) (by omega) (by simp)) F8 X T rfl rfl (by decide) (by decide) ⟨⟨_, (N8 (d5, listOf w5.toArray n5) (by simp)).1, rfl, _, rfl⟩, ⟨_, (N8 _ (.head _)).1, rfl, _, rfl⟩⟩ ?_
    rintro _ h9 tk9 ht9 ⟨d9, w9, n9, rfl, hd9n, hd9, hw9⟩ F9 N9
    have ht9' : 1 ≤ tk9 := ht9 (by (try dsimp only); omega)
    have N9' := after_new0 F8 hd9n hd9 (N9 _ N8)
    have hd9c : d9 ≠ L + 1 := fun e1 => by
      have q := (N8 (L + 1, oc) (by simp)).1
      dsimp only at q hd9n
      rw [e1, q] at hd9n; cases hd9n
    have hd9I : d9 ≠ I := fun e1 => by
      obtain ⟨oI, hoI'⟩ := hI
      have q := (N8 (I, oI) (by simp [hoI'])).1
      dsimp only at q hd9n
      rw [e1, q] at hd9n; cases hd9n
    clear ht9 F8 N8 N9 hd9
    dsimp only
    k_steps
    (rename Fr _ _ _ _ => F10)
    (rename News _ _ _ _ => N10)
    have er : rs.toArray.size = row.length := by rw [List.size_toArray]; exact hlr
    refine len_list (items := rs.toArray) ⟨_, (N10 (dr, listOf rs.toArray nr) (by simp)).1, rfl, _, rfl⟩ (by omega) ?_
    rw [er]
    k_steps
    refine Stop.on ?_
    (rename Fr _ _ _ _ => F11)
    (rename News _ _ _ _ => N11)
    have nl := namesAt_len row step hn i (by omega)
    have hIc : I ≠ L + 1 := fun e1 => hnI (L + 1, oc) (.head _) e1.symm
    have hl5 : row.length - 1 - i ≤ 7 := by omega
    refine inner_loop B X T (x.fmod 96) (8 - (x.fdiv 96).fmod 9) (4 - x.fdiv 864) step (row.length - 1 - i) hb2 hb3 hl5 hb1 hst _ _ _ t4 _ rfl rfl rfl rfl (congrArg (fun z => some (Value.int z _)) (show ((row.length : Int) - 1 - (i : Int)) = ((row.length - 1 - i : Nat) : Int) by omega)) dd rfl wd nd (namesAt row step i) oc tl (own ++ [(d9, listOf w9.toArray n9), (dr, listOf rs.toArray nr)]) hwd (by omega) cv hoc ?_ hct F11 (News.sub N11 fun q hq => ?_) ?_ _ _ hb' _ ?_
    · intro q hq
      rcases List.mem_append.mp hq with hq | hq
      · rw [hown q hq]; exact hIc
      · rcases List.mem_cons.mp hq with rfl | hq
        · exact hd9c
        · rw [List.mem_singleton.mp hq]; exact hdr
    · simp only [List.mem_append, List.mem_cons, List.cons_append, List.not_mem_nil, or_false] at hq ⊢
      rcases hq with hq | hq | hq | hq | hq | hq <;> simp [hq]
    · (try dsimp only); omega
    intro h12 tk12 m12 d12 ws12 n12 oc12 tl12 cv12 ht12 F12 N12 hoc12 hct12 hd12 htl12 hs12 hmd12 hw12
    obtain ⟨oI, hoI'⟩ := hI
    k_steps
    refine TurnEnd.intro (news₂ := (L + 1, oc12) :: (d12, listOf ws12.toArray n12) :: (tl12 ++ [(d9, listOf w9.toArray n9), (dr, listOf rs.toArray nr)])) F12 (News.sub N12 fun q hq => ?_) (fun q hq => ?_)
      ⟨d12, ws12, n12, d9, w9, n9, oc12, tl12, cv12, rfl, hoc12, hct12, hd9c, (hs12 "row" (by decide) (by decide)).trans rfl, (hs12 "step" (by decide) (by decide)).trans rfl, (hs12 "palette" (by decide) (by decide)).trans rfl, hmd12, ?_, ?_⟩
    · simp only [List.mem_append, List.mem_cons, List.cons_append, List.not_mem_nil, or_false] at hq ⊢
      rcases hq with hq | hq | hq | hq | hq | hq <;> simp [hq]
    · simp only [List.mem_append, List.mem_cons, List.cons_append, List.not_mem_nil, or_false] at hq
      rcases hq with hq | hq | hq | hq | hq
      · rw [hq]; exact hnI (L + 1, oc) (.head _)
      · rw [hq]
        rcases hd12 with e1 | e1
        · rw [e1]; exact hnI (dd, listOf wd.toArray nd) (.tail _ (.head _))
        · exact e1 (I, oI) (List.mem_append_left _ hoI')
      · rcases htl12 q hq with e1 | e1
        · exact hnI q (.tail _ (.tail _ (List.mem_append_left _ e1)))
        · exact e1 (I, oI) (List.mem_append_left _ hoI')
      · rw [hq]; exact hd9I
      · rw [hq]; exact hnI (dr, listOf rs.toArray nr) (by simp)
    · rw [palAt_succ, hxd]
      exact hw9
    · rw [namesAt_succ]
      unfold stepNames drawnP drawnS drawnV
      rw [hxd]
      exact hw12
  · rintro h' tk m' news' htk F' N' ⟨dd, wd, nd, dp, wp, np, oc, tl, cv, rfl, hoc, hct, hdp, hmr, hmt, hmp, hmd, hwp, hwd⟩
    exact hQ h' tk m' dd wd nd dp wp np oc tl cv htk F' N' hoc hct hmp hmd hwp hwd
end
end Mine
end PartM3

section PartM4
open PySem PySem.W PyProof.Rows PySem.Spec PySem.Calls
set_option linter.unusedVariables false
set_option maxRecDepth 100000
set_option maxHeartbeats 4000000
namespace Mine
theorem stored_new {K : Type} [DecidableEq K] {kvs : List (K × Value)} {k : K} (h : k ∉ kvs.map (·.1)) (v : Value) : stored kvs k v = kvs ++ [(k, v)] := by
  unfold stored
  rw [if_neg]
  intro hh
  rw [List.any_eq_true] at hh
  obtain ⟨p, hp, he⟩ := hh
  exact h (List.mem_map.mpr ⟨p, hp, by simpa using he⟩)
theorem stored_all {g : Value → Int} {l : List Value} {kvs : List (Int × Value)} (h : StoredAll (fun v k => k = g v) (fun v y => y = v) l kvs) : (l.map g).Nodup → kvs = l.map (fun v => (g v, v)) := by
  induction h with
  | nil => intro _; rfl
  | @snoc l kvs v k y _ hk hy ih =>
    intro hn
    subst hk hy
    rw [List.map_append, List.map_cons, List.map_nil] at hn
    have hn' := List.nodup_append.mp hn
    rw [ih hn'.1, stored_new, List.map_append, List.map_cons, List.map_nil]
    rw [List.map_map]
    intro hm
    exact hn'.2.2 _ hm _ (.head _) rfl
section
variable {w : World} {A : Around} {E : Value → Shared → Prop} {s : Shared} {env : Env} {h₀ : Heap} {L : Addr} {m : Str → Option Value} {news : List (Addr × Obj)}
theorem named_comp {kx vx iter : Expr} {x y : Str} {px py : Pos} {scope : Scope} {pos spos : Pos} {Q : Flow → Shared → Prop} {d : Addr} {ws : List Value} (g : Value → Int)
    (hh : A.handled = none) (F : Fr h₀ env.locals s.heap m) (N : News h₀ env.locals s.heap news) (hl : s.heap.IsList d ws.toArray) (hlen : ws.length ≤ 2000) (hnd : (ws.map g).Nodup)
    (hsw : swapsWith (.DictComp kx vx [⟨.Name x px, iter, [], 0⟩] scope pos) (some (.Name y py)) spos.line env = pure true)
    (hclos : closureFor scope env = pure []) (hcell : ∀ z ∈ scope.names, z.2 ≠ .cell) (hkind : scope.kind = .function)
    (hnames : ∀ z ∈ scope.names, z.2 = .local → scope.names.lookup z.1 = some .local) (hx : scope.names.lookup x = some .local)
    (hy : env.kindOf y = some .local) (hp : (env.scope.kind == .class || (env.scope.kind == .module && env.locals != env.globals)) = false)
    (hs : ∀ x, foldedSetIterable iter env x = pure x)
    (hiter : ∀ Q' : Value → Shared → Prop, Q' (.ref d) s → wpAny (model prg w) A (eval iter env) Q' E s)
    (hkey : ∀ (C : Addr) (i : Nat) (v : Value) (s₃ : Shared) (m₃ : Str → Option Value) (E' : Value → Shared → Prop), ws[i]? = some v → s₃.heap.Ns C m₃ → m₃ x = some v → s.heap.StaysIn s₃.heap →
      wpAny (model prg w) A (eval kx (compEnvC scope [] C env)) (fun key s₄ => (∃ u, key = .int (g v) u) ∧ Keeps s₃ s₄) E' s₃)
    (hval : ∀ (C : Addr) (i : Nat) (v : Value) (s₃ : Shared) (m₃ : Str → Option Value) (E' : Value → Shared → Prop), ws[i]? = some v → s₃.heap.Ns C m₃ → m₃ x = some v → s.heap.StaysIn s₃.heap →
      wpAny (model prg w) A (eval vx (compEnvC scope [] C env)) (fun y s₄ => y = v ∧ Keeps s₃ s₄) E' s₃)
    (h : ∀ D h' tk, s.heap.objs.size < D → s.heap.get? D = none → Fr h₀ env.locals h' (fun z => if z = y then some (.ref D) else m z) → News h₀ env.locals h' news → h'.DictOf (intKind prg w) D (ws.map (fun v => (g v, v))) → Q .next { s with heap := h', toks := tk }) :
    wpAny (model prg w) A (exec (.Assign [.Name y py] (.DictComp kx vx [⟨.Name x px, iter, [], 0⟩] scope pos) spos) env) Q E s := by
  rw [exec_Assign_Name_used _ _ _ _ hsw]
  refine wpAny_bind (wpAny_standAt (wpAny_bind ?_))
  show wpAny _ A (do let _ ← comprehension (.DictComp kx vx [⟨.Name x px, iter, [], 0⟩] scope pos) scope env _ newDict false (eval iter env) (some (assign (.Name y py) env))) _ _ s
  refine wpAny_bind (wpAny_mono (wpAny_comprehension_free (use := some (assign (.Name y py) env)) (Q := fun _ s' => Q .next s') rfl hs hclos hkind hnames
    (hiter _ ?_)) (fun _ s' hq => wpAny_pure (wpAny_pure hq)) fun _ _ e => e)
  have hlt : d < s.heap.objs.size := by obtain ⟨_, e, _⟩ := hl; exact Heap.lt_size e
  have fin : ∀ (D C : Addr) (h' : Heap) (tk : Nat) (m' : Str → Option Value) (kvs : List (Int × Value)) (vs' : List Value), s.heap.objs.size < D → s.heap.get? D = none → s.heap.get? C = none → D ≠ C → h'.Ns C m' → h'.DictOf (intKind prg w) D kvs → vs'.length = ws.length → (∀ (j : Nat) (v : Value), vs'[j]? = some v → ws[j]? = some v) →
      StoredAll (fun v k => k = g v) (fun v y => y = v) (vs'.filter fun _ => true) kvs → s.heap.StaysIn h' → compPost (model prg w) A E (some (assign (.Name y py) env)) (fun _ s' => Q .next s') (.ref D) C (.ok .next) { s with heap := h', toks := tk } := by
    intro D C h' tk m' kvs vs' hDlt hD hC hDC hnC hlD hlen' hP hF st
    have e : vs' = ws := List.ext_getElem? fun j => by
      by_cases hj : j < vs'.length
      · have : ws[j]? = some vs'[j] := hP j vs'[j] (by simp [hj])
        rw [this]; simp [hj]
      · rw [List.getElem?_eq_none (by omega), List.getElem?_eq_none (by omega)]
    subst e
    rw [List.filter_eq_self.mpr (fun _ _ => rfl)] at hF
    have hkv := stored_all hF hnd
    subst hkv
    have hn := F.ns
    have hLC : env.locals ≠ C := by rintro rfl; obtain ⟨o, _, _, ho, _⟩ := hn; rw [hC] at ho; cases ho
    have hLD : env.locals ≠ D := by rintro rfl; obtain ⟨o, _, _, ho, _⟩ := hn; rw [hD] at ho; cases ho
    show wpAny _ A (assign (.Name y py) env (.ref D)) _ _ _
    refine wpAny_assign_Name (wpAny_storeName_local hy (hn.at' fun o e => st _ o e) (fun h₂ hn₂ hs₂ => ?_) hp)
    refine ⟨m', hnC.sameBut hs₂ (Ne.symm hLC), fun h₃ hs₃ => ?_⟩
    have keep : ∀ b o, b ≠ env.locals → s.heap.get? b = some o → h₃.get? b = some o := fun b o hb e =>
      hs₃.extBut b o (by rintro rfl; rw [e] at hC; cases hC) (hs₂.extBut b o hb (st b o e))
    exact h D h₃ _ hDlt hD ⟨hn₂.sameBut hs₃ hLC, fun b o e => keep b o (Nat.ne_of_lt (Nat.lt_of_lt_of_le (Heap.lt_size e) F.above)) (F.keep b o e), F.above⟩
      (fun p hp => ⟨keep _ _ (N p hp).2.1 (N p hp).1, (N p hp).2⟩) ((hlD.extBut hs₂.extBut (Ne.symm hLD)).extBut hs₃.extBut hDC)
  refine wpAny_pyIter_list hl ?_
  refine wpAny_newObj_type (wpAny_newFunctionEnv hcell (by intro y hy; simp at hy) (fun h₁ hns₁ hsb₁ => ?_) hkind)
  dsimp only at hns₁ hsb₁ ⊢
  obtain ⟨H1, hH1⟩ : ∃ H1, s.heap.push { cls := .type "list_iterator", data := .fields #[.ref d, .int 0 0] } = H1 := ⟨_, rfl⟩
  rw [hH1] at hns₁ hsb₁ ⊢
  have z1 : H1.objs.size = s.heap.objs.size + 1 := by rw [← hH1, Heap.size_push]
  have hdict : (H1.push { cls := .type "dict", dict := none, data := .dict #[] }).DictOf (intKind prg w) H1.objs.size [] := Heap.DictOf.new H1
  obtain ⟨H2, hH2⟩ : ∃ H2, H1.push { cls := .type "dict", dict := none, data := .dict #[] } = H2 := ⟨_, rfl⟩
  rw [hH2] at hns₁ hsb₁ hdict ⊢
  have z2 : H2.objs.size = H1.objs.size + 1 := by rw [← hH2, Heap.size_push]
  have hDC : H1.objs.size ≠ H2.objs.size := by omega
  have up2 : ∀ b o, H2.get? b = some o → h₁.get? b = some o := fun b o e => hsb₁.extBut b o (Nat.ne_of_lt (Heap.lt_size e)) (Heap.get?_push_of_some _ e)
  have up1 : ∀ b o, H1.get? b = some o → h₁.get? b = some o := fun b o e => up2 b o (hH2 ▸ Heap.get?_push_of_some _ e)
  have up0 : ∀ b o, s.heap.get? b = some o → H1.get? b = some o := fun b o e => hH1 ▸ Heap.get?_push_of_some _ e
  have hgit : H1.get? s.heap.objs.size = some { cls := .type "list_iterator", data := .fields #[.ref d, .int 0 0] } := hH1 ▸ Heap.get?_push_size _ rfl
  have W := Walks.list (prog := prg) (w := w) hh s.heap.objs.size d (Nat.ne_of_lt hlt) ws.toArray
  have old : ∀ (s₃ : Shared), (∀ b o, b ≠ (compEnvC scope [] H2.objs.size env).locals → b ∉ [s.heap.objs.size] → b ≠ H1.objs.size → h₁.get? b = some o → s₃.heap.get? b = some o) → s.heap.StaysIn s₃.heap := fun s₃ hk b o e => by
    have q := ltN (Heap.lt_size e)
    refine hk b o ?_ ?_ ?_ (up1 b o (up0 b o e))
    · show b ≠ H2.objs.size
      refine neN ?_
      omega
    · intro hm; rw [List.mem_singleton.mp hm] at q; exact Nat.lt_irrefl _ q
    · refine neN ?_
      omega
  have hltN := ltN hlt
  have hDf : H1.objs.size ∉ [s.heap.objs.size, d] := fun hm => by
    rcases List.mem_cons.mp hm with e | hm
    · have e' : (H1.objs.size : Nat) = s.heap.objs.size := e
      omega
    · have e := List.mem_singleton.mp hm
      rw [← e] at hltN
      omega
  have hCf : H2.objs.size ∉ [s.heap.objs.size, d] := fun hm => by
    rcases List.mem_cons.mp hm with e | hm
    · have e' : (H2.objs.size : Nat) = s.heap.objs.size := e
      omega
    · have e := List.mem_singleton.mp hm
      rw [← e] at hltN
      omega
  have start : codeAny (model prg w) A (.compLoop (.DictComp kx vx [⟨.Name x px, iter, [], 0⟩] scope pos) 0 (.ref s.heap.objs.size) (.ref H1.objs.size) (compEnvC scope [] H2.objs.size env))
      (compPost (model prg w) A E (some (assign (.Name y py) env)) (fun _ s' => Q .next s') (.ref H1.objs.size) H2.objs.size) { s with heap := h₁, toks := s.toks + ([] : List (Str × Value)).length } := by
   refine codeAny_compLoop_walkD (hsz := by rw [List.size_toArray, sizeLine_eq]; omega) (knd := intKind prg w) (cenv := compEnvC scope [] H2.objs.size env) W (fun _ => true)
    (fun v k => k = g v) (fun v y => y = v) (lookup_relabel_local hx) (by simp [compEnvC, relabel, hkind]) hDC hDf hCf ⟨⟨_, up1 _ _ hgit, rfl, rfl⟩, hl.at fun o e => up1 _ _ (up0 _ _ e)⟩ (hdict.at fun o e => up2 _ _ e) hns₁ ?_ ?_ ?_ ?_
   · intro i v s₃ m₃ hP hn hm hk
     exact wpAny_pure ⟨rfl, s₃.heap, s₃.toks, rfl, fun _ _ e => e⟩
   · intro i v s₃ m₃ hP _ hn hm hk
     refine wpAny_mono (hkey H2.objs.size i v s₃ m₃ _ (by simpa using hP) hn hm (old s₃ hk)) (fun key s₄ h₄ => ?_) fun _ _ e => e
     obtain ⟨⟨u, rfl⟩, h5⟩ := h₄
     exact ⟨⟨g v, by simp [intKind, Value.isInt], rfl⟩, h5⟩
   · intro i v s₃ m₃ hP _ hn hm hk
     exact hval H2.objs.size i v s₃ m₃ _ (by simpa using hP) hn hm (old s₃ hk)
   · intro h' tk m' kvs vs' hnC hlD hlen' hP hF hk
     have st := old { s with heap := h', toks := tk } hk
     have hC : s.heap.get? H2.objs.size = none := Heap.get?_none_of_le (by omega)
     have hD : s.heap.get? H1.objs.size = none := Heap.get?_none_of_le (by omega)
     have hnC' : h'.Ns H2.objs.size m' := hnC
     exact fin H1.objs.size H2.objs.size h' tk m' kvs vs' (by omega) hD hC hDC hnC' hlD (by simpa using hlen') (fun j v hj => by simpa using hP j v hj) hF st
  exact codeAny_compStart_dict start (W.self 0 _ _ _ ⟨⟨_, up1 _ _ hgit, rfl, rfl⟩, hl.at fun o e => up1 _ _ (up0 _ _ e)⟩ start)
end
end Mine
end PartM4

section PartM5
open PySem PySem.W PyProof.Rows PySem.Spec PySem.Calls SeqAt
set_option linter.unusedVariables false
set_option maxRecDepth 100000
set_option maxHeartbeats 4000000
namespace Mine
theorem filledm5 : (PySem.Challenge.rw_ij0006_01, hd.heap_39) = (PySem.Challenge.rw_ij0006_01, hd.heap_39) := by k_fill; rfl
theorem none_booked {w : World} {h : Heap} (X : (hd.heap_39 w.params).In h) : NoneBooked h := by
  have e : (hd.heap_39 w.params).lookup cStatics = some { cls := .none, data := .dict #[] } := by rfl
  have e2 := X _ _ e
  refine ⟨fun _ => none, ⟨_, #[], _, e2, rfl, ?_, ?_⟩, rfl⟩
  · intro x hx; simp at hx
  · intro x; rfl
theorem eqAt_ff {A : Around} {s : Shared} {x : UInt64} {t u : Tok} (h : (Float64.cmp x x == some Ordering.eq) = true) (ht : 1 ≤ t) (hu : 1 ≤ u) (hb : NoneBooked s.heap) : SeqAt.EqAt A s (.float x t) (.float x u) true := fun prog w E Q hq => by
  unfold eqBool
  refine wpAny_holding ?_
  refine wpAny_ite_split (fun hab => wpAny_bind (wpAny_rule (wpAny_pure hq))) (fun _ => ?_)
  have h0 : (t == 0 || u == 0) = false := by rw [Bool.or_eq_false_iff]; exact ⟨beq_false_of_ne (Nat.ne_of_gt ht), beq_false_of_ne (Nat.ne_of_gt hu)⟩
  have rest : wpAny (model prog w) A (truthOfDropped =<< richCompare .Eq (.float x t) (.float x u)) Q E s :=
    wpAny_bind (AutoFloatOps.eq_0 (wpAny_truthy_bool (by rw [h]; exact hq)))
  have same : ∀ Q' : Bool → Shared → Prop, (∀ b, Q' b s) → wpAny (model prog w) A (isSame (.float x t) (.float x u)) Q' E s := by
    intro Q' hq'
    show wpAny _ A (isSame.created (x == x && !Float64.isNaN x) t u) Q' E s
    unfold isSame.created
    refine wpAny_ite ?_
    split
    · rename_i h1; rw [h0] at h1; exact absurd h1 Bool.false_ne_true
    refine wpAny_ite ?_
    split
    · exact wpAny_pure (hq' _)
    refine wpAny_ite ?_
    split
    · exact wpAny_pure (hq' _)
    refine wpAny_bind (wpAny_sharingNotTold_none hb ?_)
    first | rw [if_neg Bool.false_ne_true] | simp only [Bool.false_eq_true, if_false]
    refine wpAny_bind (wpAny_sharingNotTold_none hb ?_)
    first | rw [if_neg Bool.false_ne_true] | simp only [Bool.false_eq_true, if_false]
    exact wpAny_bind (wpAny_rule (wpAny_bind (wpAny_askSetting (wpAny_pure (hq' _)))))
  refine wpAny_bind (same _ fun b => ?_)
  cases b with
  | true => exact wpAny_pure hq
  | false => exact rest
end Mine
end PartM5

section PartM5b
open PySem PySem.W PyProof.Rows PySem.Spec PySem.Calls SeqAt
set_option linter.unusedVariables false
set_option maxRecDepth 100000
set_option maxHeartbeats 4000000
namespace Mine
section
variable {w : World} {A : Around} {E : Value → Shared → Prop} {s : Shared} {h₀ : Heap} {L : Addr} {m : Str → Option Value} {news : List (Addr × Obj)}
theorem item_dict_int {value slice : Expr} {D : Addr} {kvs : List (Int × Value)} {k : Int} {u : Tok} {v : Value} {Q : Value → Shared → Prop} (hD : s.heap.DictOf (intKind prg w) D kvs) (hv : valueAt kvs k = some v) (h : Q v { s with toks := s.toks + 1 })
    (hs : subscripted slice false (.ref D) (.int k u) = operate [.ref D, .int k u] (getItem (.ref D) (.int k u))) (hg : ∀ r, letTemporaryGo value (.ref D) r = pure ()) :
    wpAny (model prg w) A (subscriptTail value slice (.ref D) (.int k u)) Q E s :=
  subscriptTail_builtin hD.typeIs slot_dict_getitem.lookup (wpAny_getItem_of (knd := intKind prg w) (by simp [intKind, Value.isInt]) hD.mapOf hv h) hs hg

theorem sorted_dict {D : Addr} {kvs : List (Int × Value)} {Q : Value → Shared → Prop} (hh : A.handled = none) (F : Fr h₀ L s.heap m) (N : News h₀ L s.heap news) (hD : s.heap.DictOf (intKind prg w) D kvs) (lo : (D == sysModules) = false) (h64 : kvs.length < 64)
    (h : ∀ (R : Addr) h' tk (vs : List Value) (ns : List Int) e, Fr h₀ L h' m → News h₀ L h' ((R, seqObj "list" vs.toArray e) :: news) → IntsAre vs ns → ns.Perm (kvs.map (·.1)) → ns.Pairwise (· ≤ ·) → Q (.ref R) { s with heap := h', toks := tk }) :
    wpAny (model prg w) A (call (.builtin "sorted") [.ref D]) Q E s := by
  obtain ⟨ep, hat⟩ := hD.dictAt
  obtain ⟨oD, hoD, hDD⟩ := Heap.dictOf_iff.mp hD
  refine kdu_sorted (news := news) (kdl_dict (knd := intKind prg w) (kvs := kvs) (ep := ep) lo) hh F N hat (by rw [sizeLine_eq]; omega) fun R h' tk vs F' N' l1 hl hv => ?_
  have hI : IntsAre vs (kvs.map (·.1)) := by
    have key : ∀ (vs : List Value) (kvs : List (Int × Value)), vs.length = kvs.length → (∀ (j : Nat) (v : Value), vs[j]? = some v → ∃ k x, kvs[j]? = some (k, x) ∧ (intKind prg w).is k v = true) → IntsAre vs (kvs.map (·.1)) := by
      intro vs
      induction vs with
      | nil => intro kvs hl _; cases kvs with | nil => exact .nil | cons _ _ => simp at hl
      | cons v vs ih =>
        intro kvs hl hv
        cases kvs with
        | nil => simp at hl
        | cons p kvs =>
          obtain ⟨k, x, hk, hi⟩ := hv 0 v rfl
          simp at hk
          subst hk
          obtain ⟨t, rfl⟩ := Value.isInt_shape hi
          exact .cons _ _ (ih kvs (by simpa using hl) fun j v' hj => hv (j + 1) v' hj)
    exact key vs kvs hl hv
  have hR := (N' _ (.head _)).1
  refine wpAny_call_entry PyProof.Rows.slot_list_sort ⟨_, hR, rfl⟩ PyProof.Rows.entry_list_sort (list_sort_tree (n := 0) (vs := vs) hR hI (by rw [hl]; exact h64) fun out ns' a1 a2 a3 => ⟨.none, rfl, ?_⟩) (PyProof.Rows.args_list_sort _)
  have hRn := N' _ (.head _)
  have hRlt := Heap.lt_size hR
  have old : ∀ b o, b ≠ R → h'.get? b = some o → (sortedHeap h' R vs out).get? b = some o := fun b o hb e => (sortedHeap_old hb (Heap.lt_size e)).trans e
  obtain ⟨e9, he9⟩ := sortedHeap_at (out := out) hR
  have hRL : R ≠ L := hRn.2.1
  have hR0 : h₀.get? R = none := hRn.2.2
  refine h R _ tk out.toList ns' e9 ?_ ?_ a1 a2 a3
  · obtain ⟨oL, es, ep, hL, r⟩ := F'.ns
    exact ⟨⟨oL, es, ep, old L oL hRL.symm hL, r⟩, fun b o e => old b o (fun q => by rw [q, hR0] at e; cases e) (F'.keep b o e), F'.above⟩
  · intro q hq
    rcases List.mem_cons.mp hq with rfl | hq
    · exact ⟨by simpa using he9, hRL, hR0⟩
    · have hn := N' q (.tail _ hq)
      exact ⟨old _ _ (Nat.ne_of_lt (l1 q hq)) hn.1, hn.2⟩

theorem ne_ints {a b : Addr} {vs us : List Value} {ns : List Int} {Q : Value → Shared → Prop} (ha : s.heap.IsList a vs.toArray) (hb : s.heap.IsList b us.toArray) (hi : IntsAre vs ns) (hj : IntsAre us ns) (hu : A.units < cLine) (h : Q (.bool false) s) :
    wpAny (model prg w) A (compareOp .NotEq (.ref a) (.ref b)) Q E s := by
  show wpAny _ _ (richCompare .NotEq _ _) _ _ _
  have l1 := IntsAre.length hi
  have l2 := IntsAre.length hj
  refine RcNeAt.lists (e := fun _ => true) ha hb (by rw [List.size_toArray, List.size_toArray]; omega) hu (fun j h1 h2 => ?_) _ _ _ _ ?_
  · rw [List.size_toArray] at h1 h2
    obtain ⟨n1, t1, e1, f1⟩ := IntsAre.at9 hi (List.getElem?_eq_getElem h1)
    obtain ⟨n2, t2, e2, f2⟩ := IntsAre.at9 hj (List.getElem?_eq_getElem h2)
    rw [e1] at e2
    cases e2
    simp only [List.getElem_toArray]
    rw [f1, f2]
    have q := EqAt.int_int (A := A.in1) (s := s) n1 t1 n1 t2
    rw [beq_self_eq_true] at q
    exact q
  · rw [show (!(List.range vs.toArray.size).all fun _ => true) = false by simp]
    exact h
theorem eq_ints {a b : Addr} {vs us : List Value} {ns : List Int} {Q : Value → Shared → Prop} (ha : s.heap.IsList a vs.toArray) (hb : s.heap.IsList b us.toArray) (hi : IntsAre vs ns) (hj : IntsAre us ns) (hu : A.units < cLine) (h : Q (.bool true) s) :
    wpAny (model prg w) A (compareOp .Eq (.ref a) (.ref b)) Q E s := by
  show wpAny _ _ (richCompare .Eq _ _) _ _ _
  have l1 := IntsAre.length hi
  have l2 := IntsAre.length hj
  refine RcAt.lists (e := fun _ => true) ha hb (by rw [List.size_toArray, List.size_toArray]; omega) hu (fun j h1 h2 => ?_) _ _ _ _ ?_
  · rw [List.size_toArray] at h1 h2
    obtain ⟨n1, t1, e1, f1⟩ := IntsAre.at9 hi (List.getElem?_eq_getElem h1)
    obtain ⟨n2, t2, e2, f2⟩ := IntsAre.at9 hj (List.getElem?_eq_getElem h2)
    rw [e1] at e2
    cases e2
    simp only [List.getElem_toArray]
    rw [f1, f2]
    have q := EqAt.int_int (A := A.in1) (s := s) n1 t1 n1 t2
    rw [beq_self_eq_true] at q
    exact q
  · rw [show ((List.range vs.toArray.size).all fun _ => true) = true by simp]
    exact h
theorem notIn_names {d a : Addr} {ws : List Value} {n na : Nat} {x : Int × Int × Int} {u1 u2 u3 : Tok} {tl : List (Addr × Obj)} {xs : List (Int × Int × Int)} {Q : Value → Shared → Prop} (hl : s.heap.get? d = some (listOf ws.toArray n)) (ha : s.heap.get? a = some (triO x u1 u2 u3 na)) (hT : ∀ q ∈ tl, s.heap.get? q.1 = some q.2 ∧ q.1 ≠ a) (hw : Names tl ws xs) (hu : A.units + 5 < cLine)
    (h : Q (.bool (!decide (x ∈ xs))) s) : wpAny (model prg w) A (compareOp .NotIn (.ref a) (.ref d)) Q E s := by
  refine notIn_listAt (fun v => nameAt s.heap v == x) ⟨_, hl, rfl, _, rfl⟩ (fun y hy => ?_) ?_
  · have hy' : y ∈ ws := by simpa using hy
    obtain ⟨i, hi⟩ := List.mem_iff_getElem?.mp hy'
    obtain ⟨ai, ni, v1, v2, v3, z, rfl, hz, hmem⟩ := Names.at9 hw hi
    have hai := hT _ hmem
    rw [nameAt_of hai.1]
    exact tri_eq hai.2 hai.1 ha (by show A.units + _ < cLine; omega)
  · have e : (ws.toArray.any fun v => nameAt s.heap v == x) = decide (x ∈ xs) := by
      have e1 := Names.map (fun q hq => (hT q hq).1) hw
      rw [List.any_toArray, Bool.eq_iff_iff, List.any_eq_true, decide_eq_true_eq]
      constructor
      · rintro ⟨v, hv, hq⟩
        rw [← e1, ← eq_of_beq hq]
        exact List.mem_map.mpr ⟨v, hv, rfl⟩
      · intro hx
        rw [← e1] at hx
        obtain ⟨v, hv, hq⟩ := List.mem_map.mp hx
        exact ⟨v, hv, by rw [hq]; exact beq_self_eq_true x⟩
    rw [e]; exact h
theorem ne_tupF {a b : Addr} {x y z : UInt64} {t1 t2 t3 u1 u2 u3 : Tok} {n k : Nat} {Q : Value → Shared → Prop} (ha : s.heap.get? a = some { cls := .type "tuple", data := .seq #[.float x t1, .float y t2, .float z t3] n }) (hb : s.heap.get? b = some { cls := .type "tuple", data := .seq #[.float x u1, .float y u2, .float z u3] k })
    (hx : (Float64.cmp x x == some Ordering.eq) = true) (hy : (Float64.cmp y y == some Ordering.eq) = true) (hz : (Float64.cmp z z == some Ordering.eq) = true) (h1 : 1 ≤ t1 ∧ 1 ≤ t2 ∧ 1 ≤ t3) (h2 : 1 ≤ u1 ∧ 1 ≤ u2 ∧ 1 ≤ u3) (hnb : NoneBooked s.heap) (hu : A.units < cLine) (h : Q (.bool false) s) :
    wpAny (model prg w) A (compareOp .NotEq (.ref a) (.ref b)) Q E s := by
  show wpAny _ _ (richCompare .NotEq _ _) _ _ _
  refine RcNeAt.tuples (e := fun _ => true) ⟨_, ha, rfl, _, rfl⟩ ⟨_, hb, rfl, _, rfl⟩ hu (fun j h3 h4 => ?_) _ _ _ _ ?_
  · match j, h3, h4 with
    | 0, _, _ => exact eqAt_ff hx h1.1 h2.1 hnb
    | 1, _, _ => exact eqAt_ff hy h1.2.1 h2.2.1 hnb
    | 2, _, _ => exact eqAt_ff hz h1.2.2 h2.2.2 hnb
  · exact h
end
end Mine
end PartM5b

section PartM6
open PySem PySem.W PyProof.Rows PySem.Spec PySem.Calls
set_option linter.unusedVariables false
set_option maxRecDepth 100000
set_option maxHeartbeats 4000000
namespace Mine
theorem filledm6 : (PySem.Challenge.rw_ij0006_01, hd.heap_39) = (PySem.Challenge.rw_ij0006_01, hd.heap_39) := by k_fill; rfl
theorem fn_of {K : Frag} {f : Addr} {name qual : Str} {params : Arguments} {body : List Stmt} {scope : Scope} {dV kV doc pm cdv ct oc : Value} {an od : Option Addr} {osl : Array (Option Value)}
    (ho : K.lookup f = some ⟨oc, od, .func (fnOf name qual params body scope dV kV doc pm an cdv ct), osl⟩) : ∃ o fd, K.lookup f = some o ∧ o.data = .func fd := ⟨_, _, ho, rfl⟩
theorem due_fn (w : World) : ∃ o fd, (hd.heap_39 w.params).lookup 119 = some o ∧ o.data = .func fd := by
  refine' fn_of ?k6
  case k6 => k_is
theorem callDef1 {M : Model} {A : Around} {E : Value → Shared → Prop} {s : Shared} {K : Frag} {f : Addr} {pos : Pos} {t : Sem Value} {Q : Value → Shared → Prop} (hf : ∃ o fd, K.lookup f = some o ∧ o.data = .func fd)
    (h : wpAny M A t (fun v s₁ => K.In s₁.heap ∧ wpAny M A (call (.ref f) [v]) Q E s₁) E s) : wpAny M A (callWith pos (.ref f) [] [(false, t)] []) Q E s := by
  obtain ⟨o, fd, ho, hd⟩ := hf
  exact callWith_function (o := o) (fd := fd) (Calls.evalArgs_plain (Calls.spliced_cons (wpAny_mono h (fun v s₁ h₁ => Calls.spliced_nil ⟨⟨h₁.1 _ _ ho, hd⟩, h₁.2⟩) fun _ _ e => e)))
theorem getm_append {w : World} {prog : Program} {A : Around} {E : Value → Shared → Prop} {s : Shared} {d : Addr} {ws : List Value} {n : Nat} {pl : Sem Bool} {Q : Value × List Value → Shared → Prop} (hl : s.heap.get? d = some (listOf ws.toArray n)) (h : Q (.builtin "list.append", [.ref d]) s) :
    wpAny (model prog w) A (getMethod (.ref d) "append" pl) Q E s :=
  getMethod_builtin (T := "list") ⟨_, hl, rfl⟩ PySem.F.plainAttrs_list PySem.F.slot_list_append PySem.F.type_list_append (fun a e => by cases e; exact ⟨_, hl, rfl⟩) h
theorem valueAt_map {g : Value → Int} : ∀ {l : List Value}, (l.map g).Nodup → ∀ v ∈ l, valueAt (l.map fun v => (g v, v)) (g v) = some v
  | [], _, v, hv => by simp at hv
  | x :: l, hn, v, hv => by
    rw [List.map_cons] at hn
    have hn' := List.nodup_cons.mp hn
    unfold valueAt
    rw [List.map_cons, List.find?_cons]
    rcases List.mem_cons.mp hv with rfl | hv
    · simp
    · have hne : g x ≠ g v := fun e => hn'.1 (e ▸ List.mem_map.mpr ⟨v, hv, rfl⟩)
      have ih := valueAt_map hn'.2 v hv
      unfold valueAt at ih
      simp only [hne, decide_false]
      exact ih
def codeN (n : Int × Int × Int) : Int := dueOf n.1 n.2.1 n.2.2
/-- the plain facts that the law's end leans on -/
structure TailOk (pal : List Int) (xs : List (Int × Int × Int)) (f48 : Int → Int) : Prop where
  canon : ∀ n ∈ xs, (0 ≤ n.1 ∧ n.1 < 96) ∧ (0 ≤ n.2.1 ∧ n.2.1 ≤ 8) ∧ (0 ≤ n.2.2 ∧ n.2.2 ≤ 4)
  nodup : (xs.map codeN).Nodup
  perm : pal.Perm (xs.map codeN)
  len : xs.length < 64
  rng : ∀ n ∈ xs, 0 ≤ codeN n ∧ codeN n < 2 ^ 31
  readOk : ∀ n ∈ xs, readOk (fl512 ((codeN n).fdiv 1048576)) (fl512 (((codeN n).fdiv 1024).fmod 1024)) (fl512 ((codeN n).fmod 1024))
  read : ∀ n ∈ xs, readR (codeN n) = (fl96 n.1, fl8 n.2.1, fl4 n.2.2)
  same : ∀ n ∈ xs, (Float64.cmp (fl96 n.1) (fl96 n.1) == some Ordering.eq) = true ∧ (Float64.cmp (fl8 n.2.1) (fl8 n.2.1) == some Ordering.eq) = true ∧ (Float64.cmp (fl4 n.2.2) (fl4 n.2.2) == some Ordering.eq) = true
  turn : ∀ c ∈ pal, TurnOk c 48 (f48 c)
  lone : ∀ n ∈ xs, nameOf3 (n.1 + 48) n.2.1 n.2.2 ∈ xs ↔ codeN n ∈ pal.map f48
section
local macro_rules | `(tactic| walk_at "call ref") => `(tactic| (refine Stop.out ?_))
local macro_rules | `(tactic| walk_at "exec Assign cons DictComp") => `(tactic| (refine Stop.out ?_))
local macro_rules | `(tactic| walk_at "call builtin:sorted") => `(tactic| (refine Stop.out ?_))
local macro_rules | `(tactic| walk_at "compareOp NotEq ref ref") => `(tactic| (refine Stop.out ?_))
local macro_rules | `(tactic| walk_at "compareOp Eq ref ref") => `(tactic| (refine Stop.out ?_))
local macro_rules | `(tactic| walk_at "compareOp NotIn ref ref") => `(tactic| (refine Stop.out ?_))
local macro_rules | `(tactic| walk_at "exec For Name Name cons nil") => `(tactic| (refine Stop.out ?_))
local macro_rules | `(tactic| walk_at "subscriptTail Name Name ref int") => `(tactic| (refine Stop.out ?_))
local macro_rules | `(tactic| walk_at "call builtin:list.append") => `(tactic| (refine Stop.out ?_))
local macro_rules | `(tactic| walk_at "newList") => `(tactic| (refine Stop.out ?_))
local macro_rules | `(tactic| walk_at "getMethod ref") => `(tactic| (refine Stop.out ?_))
local macro_rules | `(tactic| walk_at "binaryOp Mult ref int") => `(tactic| (refine Stop.out ?_))
local macro_rules | `(tactic| walk_at "call type:list") => `(tactic| (refine Stop.out ?_))
local macro_rules | `(tactic| walk_at "call type:list cons nil") => `(tactic| (refine Stop.out ?_))
local macro_rules | `(tactic| walk_at "execs cons") => `(tactic| ((try dsimp only); (with_reducible show wpAny _ _ _ _ _ (Shared.mk _ _ _ (_ + _) _)); (refine gen_toks (by omega) ?_); intro tk htk))
set_option pp.deepTerms false
set_option pp.maxSteps 3000
theorem law_tail {w : World} {L fa : Addr} {cd : Value} {s : Shared} {h₀ : Heap} {p : Program} {loose : List Str} {mean : ExcName → Option Value} {mg mb : Str → Option Value} {m : Str → Option Value} {E : Value → Shared → Prop}
    (B : Below callerA h₀ [] h₀) (X : (hd.heap_39 w.params).In h₀) (T : Top p loose mean mg mb h₀)
    (pal : List Int) (xs : List (Int × Int × Int)) (f48 : Int → Int) (ok : TailOk pal xs f48)
    (dp np : Nat) (wp : List Value) (mp : m "palette" = some (.ref dp)) (hwp : IntsAre wp pal) (dd nd : Nat) (wd : List Value) (md : m "due" = some (.ref dd)) (tl : List (Addr × Obj)) (hwd : Names tl wd xs)
    (F : Fr h₀ L s.heap m) (N : News h₀ L s.heap ((dd, listOf wd.toArray nd) :: (dp, listOf wp.toArray np) :: tl)) (ht : 1 ≤ s.toks) :
   ∀ b sc, lawOf (hd.heap_39 w.params) = some (b, sc) → ∀ (Q : Flow → Shared → Prop),
     (∀ h' tk m', Fr h₀ L h' m' → Q (.ret (.bool true)) { s with heap := h', toks := tk }) →
     wpAny (model prg w) (callerA.deeper (envOfC "law" sc L fa cd)) (execs (tail5 b) (envOfC "law" sc L fa cd)) Q E s := by
  refine' law_start ?k6 ?_
  case k6 => k_is
  intro Q hQ
  dsimp only [tail5]
  have hall := all_cons mp (all_cons md all_nil)
  have F0 := fr_knows _ F hall
  dsimp only [know] at F0
  clear F
  obtain ⟨sh, sg, sd, st, so⟩ := s
  dsimp only at *
  k_steps
  refine Stop.on ?_
  have hN0 : ∀ q ∈ tl, sh.get? q.1 = some q.2 := fun q hq => (N q (.tail _ (.tail _ hq))).1
  have hmapx := Names.map hN0 hwd
  have hlx := Names.length hwd
  have ok2 := ok.len
  have hnd : (wd.map (fun v => codeN (nameAt sh v))).Nodup := by
    have := ok.nodup
    rw [← hmapx, List.map_map] at this
    exact this
  refine named_comp (d := dd) (ws := wd) (fun v => codeN (nameAt sh v)) rfl F0 N ⟨_, (N _ (.head _)).1, rfl, _, rfl⟩ (by omega) hnd (by with_unfolding_all rfl) rfl (by decide) rfl (by decide) rfl rfl rfl (by intro _; rfl) (fun Q' h => nmL F0.ns rfl h rfl rfl) ?_ ?_ ?_
  · intro C i v s₃ m₃ E' hv hn hm hst
    obtain ⟨a, na, u1, u2, u3, n, rfl, hn2, hmem⟩ := Names.at9 hwd hv
    have ha := hN0 _ hmem
    have hc := ok.canon n (List.mem_of_getElem? hn2)
    have F3 := Fr.grow F0 hst
    refine Call_Name1 (nmG (X.keeps F3.keep) (T.keeps F3.keep) (v := .ref 119) (by k_is) ?_ rfl rfl rfl (by decide)) rfl
    refine callDef1 (due_fn w) (nmL (m := m₃) hn hm ⟨X.keeps F3.keep, ?_⟩ rfl rfl)
    refine use_ctr (due_ctr a n.1 n.2.1 n.2.2 u1 u2 u3 hc.1 hc.2.1 hc.2.2) B F3 X T rfl (by intro e; cases e) (by decide) (by decide) ⟨_, hst _ _ ha, rfl, _, rfl⟩ ?_
    rintro _ h4 tk4 st4 ht4 ⟨u, rfl⟩
    refine ⟨⟨u, ?_⟩, h4, tk4, rfl, st4⟩
    show _ = Value.int (codeN (nameAt sh (.ref a))) u
    rw [nameAt_of ha]
    rfl
  · intro C i v s₃ m₃ E' hv hn hm hst
    exact nmL (m := m₃) hn hm ⟨rfl, s₃.heap, s₃.toks, rfl, fun _ _ e => e⟩ rfl rfl
  intro D1 h1 tk1 hD1lt hD1n F1 N1 hD1
  have lo : (D1 == sysModules) = false := by
    have q1 := ltN hD1lt
    have q2 := ltN F0.ns.lt
    refine beq_false_of_ne (neN ?_)
    show (D1 : Nat) ≠ 1
    dsimp only at q1 q2
    omega
  obtain ⟨oD, hoD, hDD⟩ := Heap.dictOf_iff.mp hD1
  have N1' := after_new0 F0 hD1n hoD N1
  clear N1 N
  clear F0
  dsimp only at F1 N1' hD1 hD1n ⊢
  k_steps
  refine Stop.on ?_
  (rename Fr _ _ _ _ => F2)
  (rename News _ _ _ _ => N2)
  have lpal : pal.length = xs.length := by have := ok.perm.length_eq; rw [List.length_map] at this; exact this
  have lwp := IntsAre.length hwp
  refine sorted_N F2 N2 ⟨_, (N2 (dp, listOf wp.toArray np) (by simp)).1, rfl, _, rfl⟩ hwp (by omega) ?_
  intro h3 vs3 ns3 e3 F3 N3 hI3 hp3 hs3
  clear F2 N2
  dsimp only
  k_steps
  refine Stop.on ?_
  (rename Fr _ _ _ _ => F4)
  (rename News _ _ _ _ => N4)
  refine sorted_dict rfl F4 N4 (Heap.dictOf_iff.mpr ⟨oD, (N4 (D1, oD) (by simp)).1, hDD⟩) lo (by rw [List.length_map]; omega) ?_
  intro R5 h5 tk5 vs5 ns5 e5 F5 N5 hI5 hp5 hs5
  have hns : ns5 = ns3 := by
    refine lks_uniq ((hp5.trans ?_).trans (ok.perm.symm.trans hp3.symm)) hs5 hs3
    rw [List.map_map, ← hmapx, List.map_map]
    exact List.Perm.refl _
  subst hns
  clear F4 N4
  dsimp only
  k_steps
  refine Stop.on ?_
  (rename Fr _ _ _ _ => F6)
  (rename News _ _ _ _ => N6)
  refine ne_ints (vs := vs3) (us := vs5) ⟨_, (N6 _ (.tail _ (.head _))).1, rfl, _, rfl⟩ ⟨_, (N6 _ (.head _)).1, rfl, _, rfl⟩ hI3 hI5 (show callerA.units + 3 < cLine by decide) ?_
  k_steps
  refine Stop.on ?_
  refine wpAny_newList ?_ (by decide)
  have F7 := F6.push { cls := .type "list", data := .seq ([] : List Value).toArray }
  have N7 := News.push F6 N6 { cls := .type "list", data := .seq ([] : List Value).toArray } rfl
  have hne7 := fun q hq => (Nat.ne_of_lt (Heap.lt_size (N6 q hq).1))
  clear F6 N6
  dsimp only at F7 N7 hne7 ⊢
  k_steps
  refine Stop.on ?_
  (rename Fr _ _ _ _ => F8)
  (rename News _ _ _ _ => N8)
  have hlL : dp ≠ L := (N8 (dp, listOf wp.toArray np) (by simp)).2.1
  have ldp : Heap.IsList _ dp wp.toArray := ⟨_, (N8 (dp, listOf wp.toArray np) (by simp)).1, rfl, _, rfl⟩
  have N8' := News.sub (news := (h5.objs.size, listOf ([] : List Value).toArray 0) :: ((D1, oD) :: (dd, listOf wd.toArray nd) :: (dp, listOf wp.toArray np) :: tl)) N8 (fun q hq => by
    rcases List.mem_cons.mp hq with rfl | hq
    · exact .head _
    · exact .tail _ (.tail _ (.tail _ hq)))
  refine For_T h₀ rfl rfl (nmL F8.ns rfl (iter_T (l := dp) (items := wp) (fun i m' news' => ∃ dl wl nl, news' = (dl, listOf (List.toArray wl) nl) :: ((D1, oD) :: (dd, listOf wd.toArray nd) :: (dp, listOf wp.toArray np) :: tl) ∧
      (∀ q ∈ ((D1, oD) :: (dd, listOf wd.toArray nd) :: (dp, listOf wp.toArray np) :: tl), q.1 ≠ dl) ∧ m' "lone" = some (.ref dl) ∧ m' "named" = some (.ref D1) ∧ m' "palette" = some (.ref dp) ∧ m' "due" = some (.ref dd) ∧
      IntsAre wl ((pal.take i).filter fun c => !decide (c ∈ pal.map f48))) rfl ldp hlL F8 N8' (by assumption) ?_ ?_ ?_) rfl rfl) (by intro _; rfl)
  · exact ⟨_, [], 0, rfl, (fun q hq => hne7 q (.tail _ (.tail _ hq))), rfl, rfl, rfl, rfl, .nil⟩
  · rintro i v m₁ news₁ h tk own I hvi ⟨dl, wl, nl, rfl, hdl, hml, hmn, hmp, hmd, hwl⟩ htk hnI ⟨oI, hoI⟩ hown hIs F N
    obtain ⟨c, t, hci, rfl⟩ := IntsAre.at9 hwp hvi
    clear F8 N8 N8' ldp
    have e9 := know_eq (all_cons hml (all_cons hmn (all_cons hmp (all_cons hmd all_nil))))
    rw [← e9] at F
    dsimp only [know] at F
    have hcm : c ∈ xs.map codeN := ok.perm.mem_iff.mp (List.mem_of_getElem? hci)
    obtain ⟨n, hnx, hnc⟩ := List.mem_map.mp hcm
    obtain ⟨j, hj⟩ := List.mem_iff_getElem?.mp hnx
    obtain ⟨v, hv⟩ : ∃ v, wd[j]? = some v := ⟨_, List.getElem?_eq_getElem (by have := (List.getElem?_eq_some_iff.mp hj).1; omega)⟩
    obtain ⟨a, na, u1, u2, u3, n', rfl, hn', hmem⟩ := Names.at9 hwd hv
    rw [hj] at hn'
    cases hn'
    have hca := ok.canon n hnx
    have hvA : valueAt (wd.map fun v => (codeN (nameAt sh v), v)) c = some (.ref a) := by
      have q := valueAt_map hnd (.ref a) (List.mem_of_getElem? hv)
      rw [nameAt_of (hN0 _ hmem), hnc] at q
      exact q
    have hDc : h.DictOf (intKind prg w) D1 (wd.map fun v => (codeN (nameAt sh v), v)) := Heap.dictOf_iff.mpr ⟨oD, (N (D1, oD) (by simp)).1, hDD⟩
    dsimp only
    k_steps
    refine Stop.on ?_
    refine item_dict_int hDc hvA ?_ rfl (by intro _; rfl)
    have hTa : IsTup h a #[.int n.1 u1, .int n.2.1 u2, .int n.2.2 u3] := ⟨_, (N (a, triO n u1 u2 u3 na) (by simp [hmem])).1, rfl, _, rfl⟩
    dsimp only
    k_steps
    refine Stop.on ?_
    (rename Fr _ _ _ _ => F2)
    (rename News _ _ _ _ => N2)
    have hrg := ok.rng n hnx
    have hro := ok.readOk n hnx
    have hrd := ok.read n hnx
    have hsm := ok.same n hnx
    rw [hnc] at hrg hro hrd
    refine use_ctr (read_ctr c t hrg hro) B F2 X T rfl (by intro e; cases e) (by decide) (by decide) (by (try dsimp only); omega) ?_
    rintro _ h9 tk9 st9 ht9 ⟨a9, n9, v1, v2, v3, rfl, ha9, hv1, hv2, hv3, hn9⟩
    have ht9' : 1 ≤ tk9 := ht9 (by (try dsimp only); omega)
    rw [hrd] at ha9
    have F9 := Fr.grow F2 st9
    have N9 := News.add F2 N2 st9 ha9 hn9
    have hn9' := hn9
    clear ht9 F2 N2
    dsimp only at ha9 ⊢
    clear ha9 hn9
    k_steps
    all_goals first | (exfalso; omega) | skip
    refine Stop.on ?_
    (rename Fr _ _ _ _ => F10)
    (rename News _ _ _ _ => N10)
    refine ne_tupF (x := fl96 n.1) (y := fl8 n.2.1) (z := fl4 n.2.2) (N10 _ (.tail _ (.head _))).1 (N10 _ (.head _)).1 hsm.1 hsm.2.1 hsm.2.2 ⟨hv1, hv2, hv3⟩ ⟨Nat.succ_le_succ (Nat.zero_le _), Nat.succ_le_succ (Nat.zero_le _), Nat.succ_le_succ (Nat.zero_le _)⟩ (none_booked (X.keeps F10.keep)) (show callerA.units + 3 < cLine by decide) ?_
    dsimp only
    k_steps
    refine Stop.on ?_
    refine use_ctr (name_ctr (n.1 + 48) n.2.1 n.2.2 _ _ _ hca.2.1 hca.2.2) B (by k_asm) X T rfl (by intro e; cases e) (by decide) (by decide) trivial ?_
    rintro _ h11 tk11 st11 ht11 ⟨a11, n11, w1, w2, w3, rfl, ha11, hn11⟩
    have ht11' : 1 ≤ tk11 := ht11 (by (try dsimp only); omega)
    (rename Fr _ _ _ _ => F10')
    (rename News _ _ _ _ => N10')
    have hta : ∀ q ∈ tl, q.1 ≠ a11 := fun q hq e => by
      have q2 := (N10' q (by simp [hq])).1
      dsimp only at q2 hn11
      rw [e, hn11] at q2; cases q2
    have F11 := Fr.grow F10' st11
    have N11 := News.add F10' N10' st11 ha11 hn11
    clear ht11 F10' N10'
    dsimp only
    k_steps
    refine Stop.on ?_
    refine notIn_names (N11 (dd, listOf wd.toArray nd) (by simp)).1 (N11 _ (.head _)).1 (fun q hq => ⟨(N11 q (by simp [hq])).1, hta q hq⟩) hwd (show callerA.units + 3 + 5 < cLine by decide) ?_
    have hlone := ok.lone n hnx
    rw [hnc] at hlone
    rw [decide_eq_decide.mpr hlone]
    cases hcl : decide (c ∈ pal.map f48) with
    | true =>
      refine (show wpAny _ _ (truthy (.bool false)) _ _ _ from ?_)
      k_steps
      (rename Fr _ _ _ _ => F12)
      (rename News _ _ _ _ => N12)
      refine TurnEnd.intro (news₂ := (dl, listOf wl.toArray nl) :: ((D1, oD) :: (dd, listOf wd.toArray nd) :: (dp, listOf wp.toArray np) :: tl)) F12 (News.sub N12 fun q hq => by
        rcases List.mem_append.mp hq with hq | hq
        · simp [hq]
        · simp only [List.mem_cons] at hq
          rcases hq with hq | hq | hq | hq | hq <;> simp [hq]) (fun q hq => hnI q hq) ⟨dl, wl, nl, rfl, hdl, rfl, rfl, rfl, rfl, ?_⟩
      rw [List.take_add_one, hci, Option.toList_some, List.filter_append, List.filter_cons, if_neg (by rw [hcl]; decide), List.filter_nil, List.append_nil]
      exact hwl
    | false =>
      refine (show wpAny _ _ (truthy (.bool true)) _ _ _ from ?_)
      k_steps
      refine Stop.on ?_
      (rename News _ _ _ _ => N12)
      refine getm_append (N12 (dl, listOf wl.toArray nl) (by simp)).1 ?_
      k_steps
      refine Stop.on ?_
      (rename Fr _ _ _ _ => F13)
      (rename News _ _ _ _ => N13)
      have N14 := News.sub (news := (dl, listOf wl.toArray nl) :: (own ++ ((D1, oD) :: (dd, listOf wd.toArray nd) :: (dp, listOf wp.toArray np) :: tl))) N13 (fun q hq => by
        rcases List.mem_cons.mp hq with hq | hq
        · simp [hq]
        · rcases List.mem_append.mp hq with hq | hq
          · simp [hq]
          · simp only [List.mem_cons] at hq
            rcases hq with hq | hq | hq | hq <;> simp [hq])
      have hne : ∀ q ∈ own ++ ((D1, oD) :: (dd, listOf wd.toArray nd) :: (dp, listOf wp.toArray np) :: tl), q.1 ≠ dl := fun q hq => by
        rcases List.mem_append.mp hq with hq | hq
        · rcases hown q hq with e | e
          · rw [e]; exact (hnI _ (.head _)).symm
          · rw [e]; exact hdl (dp, listOf wp.toArray np) (by simp)
        · exact hdl q hq
      have lwl := IntsAre.length hwl
      have lwl2 := List.length_filter_le (fun c => !decide (c ∈ pal.map f48)) (pal.take i)
      rw [List.length_take] at lwl2
      refine append_K F13 N14 (.head hne) ?_ (by rw [List.size_toArray, sizeLine_eq]; omega)
      intro h15 F15 N15
      k_steps
      refine TurnEnd.intro (news₂ := (dl, listOf (wl.toArray.push (.int c t)) (nl + 1)) :: ((D1, oD) :: (dd, listOf wd.toArray nd) :: (dp, listOf wp.toArray np) :: tl)) F15 (News.sub N15 fun q hq => by
        rcases List.mem_append.mp hq with hq | hq
        · simp [hq]
        · simp only [List.mem_cons] at hq
          rcases hq with hq | hq | hq | hq | hq <;> simp [hq]) (fun q hq => by
        rcases List.mem_cons.mp hq with rfl | hq
        · exact hnI (dl, listOf wl.toArray nl) (.head _)
        · exact hnI q (.tail _ hq)) ⟨dl, wl ++ [.int c t], nl + 1, by simp, hdl, rfl, rfl, rfl, rfl, ?_⟩
      rw [List.take_add_one, hci, Option.toList_some, List.filter_append, List.filter_cons, if_pos (by rw [hcl]; rfl), List.filter_nil]
      exact hwl.append (.cons _ _ .nil)
  · rintro h' tk m' news' htk F N ⟨dl, wl, nl, rfl, hdl, hml, hmn, hmp, hmd, hwl⟩
    clear F8 N8 N8' ldp
    have e9 := know_eq (all_cons hml (all_cons hmp all_nil))
    rw [← e9] at F
    dsimp only [know] at F
    dsimp only
    k_steps
    refine Stop.on ?_
    (rename Fr _ _ _ _ => F1)
    (rename News _ _ _ _ => N1)
    refine KMa.mul F1 N1 (l := dp) (vs := wp) ⟨_, (N1 (dp, listOf wp.toArray np) (by simp)).1, rfl, _, rfl⟩ (by decide) (by decide) (ws := wp ++ wp) (by show wp.length * 2 ≤ 256; omega) (by show wp ++ (wp ++ []) = _; rw [List.append_nil]) ?_
    intro Da h2 F2 N2 hDa
    k_steps
    refine Stop.on ?_
    refine use_ctr (turned_ctr dp wp pal 48 f48 _ hwp ok.turn (by omega)) B F2 X T rfl (by intro e; cases e) (by decide) (by decide) ⟨by (try dsimp only); omega, ⟨_, (N2 (dp, listOf wp.toArray np) (by simp)).1, rfl, _, rfl⟩⟩ ?_
    rintro _ h4 tk4 st4 ht4 ⟨Dt, wt, nt, rfl, hDn, hD, hwt⟩
    have ht4' : 1 ≤ tk4 := ht4 (by (try dsimp only); omega)
    have F4 := Fr.grow F2 st4
    have N4 := News.add F2 N2 st4 hD hDn
    clear ht4 hD
    dsimp only
    k_steps
    refine Stop.on ?_
    have lDa : h4.IsList Da (wp ++ wp).toArray := ⟨_, (N4 _ (.tail _ (.head _))).1, rfl, _, rfl⟩
    have lDt : h4.IsList Dt wt.toArray := ⟨_, (N4 _ (.head _)).1, rfl, _, rfl⟩
    refine use_ctr (diff_ctr Da Dt (wp ++ wp).toArray wt (pal.map f48) hwt (by rw [List.length_map]; omega)) B F4 X T rfl (by intro e; cases e) (by decide) (by decide) ⟨lDt, lDa⟩ ?_
    rintro _ h5 tk5 st5 ht5 ⟨x, it, dx, bm, S, rfl, hff, f1, f2, f3, f4, f5, n1, n2, n3, n4⟩
    have ht5' : 1 ≤ tk5 := ht5 (by (try dsimp only); omega)
    have F5 := Fr.grow F4 st5
    have N5 := News.grow N4 st5
    have g5 := all5 (P := fun b => h₀.get? b = none ∧ b ≠ L) (fresh_of F4 f2) (fresh_of F4 f1) (fresh_of F4 f3) (fresh_of F4 f4) (fresh_of F4 f5)
    have a5 := all5 (P := fun c => Da ≠ c) (ne_none lDa f2) (ne_none lDa f1) (ne_none lDa f3) (ne_none lDa f4) (ne_none lDa f5)
    have hit1 : dl ≠ it := fun e => by
      have q := (N4 (dl, listOf wl.toArray nl) (by simp)).1
      dsimp only at q f2
      rw [e, f2] at q; cases q
    clear ht5 F4 f1 f2 f3 f4 f5
    dsimp only
    k_steps
    refine Stop.on ?_
    refine use_ff B F5 X T rfl rfl hff g5 ⟨n1, n2, n3, n4⟩ a5 (lDa.at fun o e => st5 Da o e) (by rw [List.toList_toArray]; exact hwp.append hwp) (by rw [List.length_append]; omega) (by decide) (by decide) ?_
    intro g6 h6 tk6 ws6 c6 ht6 hws6 hDn6 hD6 left6 T6 F6 B6
    have N6a : News g6 L h6 [(dl, listOf wl.toArray nl)] := after_news B N5 T6 left6 (fun q hq => by
      rw [List.mem_singleton.mp hq]
      exact ⟨by simp, hit1⟩)
    have N6b := after_new F5 T6 hDn6 hD6 N6a
    have F7 : Fr h₀ L h6 _ := ⟨F6.ns, fun b o e => F6.keep b o (T6.other b o e (by simp [framesOf])), by rw [← T6.size]; exact F6.above⟩
    have N7 : News h₀ L h6 _ := fun q hq => ⟨(N6b q hq).1, (N6b q hq).2.1, kt_back T6 (N6b q hq).2.2⟩
    clear F6 N6a N6b F5 N5 left6 B6
    dsimp only at F7 N7 ⊢
    k_steps
    refine Stop.on ?_
    have lwl := IntsAre.length hwl
    rw [show wp.length = pal.length from lwp, List.take_length] at hwl lwl
    have lwl2 := List.length_filter_le (fun c => !decide (c ∈ pal.map f48)) pal
    have ll1 : h6.IsList dl wl.toArray := ⟨_, (N7 (dl, listOf wl.toArray nl) (.tail _ (.head _))).1, rfl, _, rfl⟩
    refine KMa.mul F7 N7 (l := dl) (vs := wl) ll1 (by decide) (by decide) (ws := wl ++ wl) (by show wl.length * 2 ≤ 256; omega) (by show wl ++ (wl ++ []) = _; rw [List.append_nil]) ?_
    intro Db h8 F8 N8 hDb
    k_steps
    refine Stop.on ?_
    rw [List.filter_append] at hws6
    refine eq_ints (vs := ws6) (us := wl ++ wl) ⟨_, (N8 _ (.tail _ (.head _))).1, rfl, _, rfl⟩ ⟨_, (N8 _ (.head _)).1, rfl, _, rfl⟩ hws6 (hwl.append hwl) (show callerA.units + 3 < cLine by decide) ?_
    exact hQ _ _ _ F8
end
end Mine
end PartM6

section PartJ1
open PySem PySem.W PyProof.Rows PySem.Spec PySem.Calls
set_option linter.unusedVariables false
set_option maxRecDepth 100000
set_option maxHeartbeats 8000000
namespace Mine
theorem filledj1 : (PySem.Challenge.rw_ij0006_01, hd.heap_39) = (PySem.Challenge.rw_ij0006_01, hd.heap_39) := by k_fill; rfl
theorem use_lit {w : World} {G : Prop} {P : List Stmt → Scope → Prop} {name qual : Str} {params : Arguments} {body : List Stmt} {scope : Scope} {dV kV doc pm cdv ct oc : Value} {an od : Option Addr} {osl : Array (Option Value)}
    (ho : (hd.heap_39 w.params).lookup 124 = some ⟨oc, od, .func (fnOf name qual params body scope dV kV doc pm an cdv ct), osl⟩) (h : ∀ b' sc', lawOf (hd.heap_39 w.params) = some (b', sc') → P b' sc') (k : P body scope → G) : G := by
  refine k (h _ _ ?_)
  unfold lawOf
  rw [ho]
/-- the plain part of the law -/
structure PlainOk (row : List Int) : Prop where
  has : ∃ (f e f48 : Int → Int) (Gd : Int → Prop), (∀ c, Gd c → TurnOk c (row.sum.fmod 96) (f c) ∧ Gd (f c)) ∧ (∀ x ∈ row, DrawnOk (drawnP x) (drawnS x) (drawnV x) (e x) ∧ Gd (e x)) ∧
    TailOk (palAt f e row row.length) (namesAt row (row.sum.fmod 96) row.length) f48
def Plain : Prop := ∀ row : List Int, (∀ x ∈ row, 0 ≤ x ∧ x < 4320) → row.length ≤ 8 → PlainOk row
theorem joined (hp : Plain) {w : World} {L fa : Addr} {cd : Value} {sh : Heap} {sg : Array GenState} {sd : Drawn} {st : Nat} {so : OsState} {h₀ : Heap} {p : Program} {loose : List Str} {mean : ExcName → Option Value} {mg mb : Str → Option Value} {m : Str → Option Value} {E : Value → Shared → Prop}
    (B : Below callerA h₀ [] h₀) (X : (hd.heap_39 w.params).In h₀) (T : Top p loose mean mg mb h₀)
    {xs : List Int} {ys : List Value} (hR : IntsAre ys (xs.map fun k' => Int.fmod k' 4320)) (hlen : xs.length ≤ 8) {dp dd dr : Addr} {nr : Nat} {t4 : Tok} {oc : Obj} {cv : Option Value} {rest : List (Addr × Obj)} (hcell : oc.data = .cell cv) (F : Fr h₀ L sh m)
    (N : News h₀ L sh ((dd, listOf #[] 0) :: (dp, listOf #[] 0) :: (dr, listOf ys.toArray nr) :: rest)) (hoc : (L + 1, oc) ∈ rest)
    (mr : m "row" = some (.ref dr)) (mt : m "step" = some (.int ((xs.map fun k' => Int.fmod k' 4320).sum.fmod 96) t4)) (mp : m "palette" = some (.ref dp)) (md : m "due" = some (.ref dd)) (ht : 1 ≤ st) :
   ∀ b sc, lawOf (hd.heap_39 w.params) = some (b, sc) → ∀ (Q : Flow → Shared → Prop),
     (∀ h' tk m', Fr h₀ L h' m' → Q (.ret (.bool true)) ⟨h', sg, sd, tk, so⟩) →
     wpAny (model prg w) (callerA.deeper (envOfC "law" sc L fa cd)) (exec (at4 b) (envOfC "law" sc L fa cd))
       (fun f s' => match f with | .next => wpAny (model prg w) (callerA.deeper (envOfC "law" sc L fa cd)) (execs (tail5 b) (envOfC "law" sc L fa cd)) Q E s' | f => Q f s') E ⟨sh, sg, sd, st, so⟩ := by
  intro b sc hb Q hQ
  have hrow : ∀ x ∈ (xs.map fun k' => Int.fmod k' 4320), 0 ≤ x ∧ x < 4320 := fun x hx => by
    obtain ⟨y, _, rfl⟩ := List.mem_map.mp hx
    exact ⟨Int.fmod_nonneg_of_pos _ (by decide), Int.fmod_lt_of_pos _ (by decide)⟩
  obtain ⟨f, e, f48, Gd, h1, h2, h3⟩ := (hp (xs.map fun k' => Int.fmod k' 4320) hrow (by rw [List.length_map]; exact hlen)).has
  have hst : 0 ≤ (xs.map fun k' => Int.fmod k' 4320).sum.fmod 96 ∧ (xs.map fun k' => Int.fmod k' 4320).sum.fmod 96 < 96 := ⟨Int.fmod_nonneg_of_pos _ (by decide), Int.fmod_lt_of_pos _ (by decide)⟩
  refine outer_loop B X T (xs.map fun k' => Int.fmod k' 4320) _ f e Gd hrow (by rw [List.length_map]; exact hlen) hst h1 h2 t4 dr ys nr mr hR mt dp 0 mp dd 0 md oc cv hcell F (News.sub N fun q hq => ?_) ht b sc hb _ ?_
  · simp only [List.mem_cons, List.not_mem_nil, or_false] at hq
    rcases hq with rfl | rfl | rfl | rfl
    · exact .tail _ (.tail _ (.tail _ hoc))
    · exact .head _
    · exact .tail _ (.head _)
    · exact .tail _ (.tail _ (.head _))
  · intro h' tk m' dd' wd nd' dp' wp np' oc' tl cv' htk F' N' hoc' hct hmp hmd hwp hwd
    exact law_tail B X T _ _ f48 h3 dp' np' wp hmp hwp dd' nd' wd hmd tl hwd F' (News.sub N' fun q hq => by
      rcases List.mem_cons.mp hq with hq | hq
      · simp [hq]
      · rcases List.mem_cons.mp hq with hq | hq
        · simp [hq]
        · simp [hq]) htk b sc hb Q hQ
section
local macro_rules | `(tactic| walk_at "exec For Name Call cons nil") => `(tactic| (refine Stop.out ?_))
local macro_rules | `(tactic| walk_at "execs cons") => `(tactic| ((try dsimp only); (with_reducible show wpAny _ _ _ _ _ (Shared.mk _ _ _ (_ + _) _)); (refine gen_toks (by omega) ?_); intro tk htk))
set_option pp.deepTerms false
set_option pp.maxSteps 2000
theorem law_holds (hp : Plain) : PySem.Challenge.rw_ij0006_01.Holds := hd (by
  k_go0
  k_steps
  all_goals (
    refine Stop.on ?_
    (rename Below callerA _ [] _ => B)
    (rename Frag.In _ _ => X)
    (rename Top _ _ _ _ _ _ => T)
    (rename Fr _ _ _ _ => F)
    (rename News _ _ _ _ => N)
    (rename IntsAre _ (List.map _ _) => hR)
    (rename _ = Data.cell _ => hcell)
    refine' use_lit ?k6 (joined hp B X T hR ?hl hcell F N ?ho rfl rfl rfl rfl (by assumption)) ?main
    case k6 => k_is
    case hl => first | (rw [List.length_take]; omega) | decide
    case ho => first | exact .head _ | exact .tail _ (.head _) | exact .tail _ (.tail _ (.head _))
    case main =>
      intro OL
      dsimp only [at4, tail5] at OL
      refine OL _ ?_
      intro h' tk m' F'
      dsimp only
      k_steps))
end
end Mine
end PartJ1

section PartF1
open PySem PySem.W PyProof.Rows PySem.Spec PySem.Calls
set_option maxRecDepth 1000000
set_option maxHeartbeats 40000000
namespace Mine
/-! Tables: part f = r * (128 - q * f), for a fall f of 0 to 16 -/
def prt (r q f : Nat) : Nat := r * (128 - q * f)
def tSub (r q f : Nat) : Bool := Float64.sub (fl512 (128 * r : Nat)) (fl512 (prt r q f : Nat)) == fl512 ((r * q * f : Nat) : Int)
def tDiv (r q f : Nat) : Bool := Float64.div (fl512 ((r * q * f : Nat) : Int)) (fl512 ((16 * r * q : Nat) : Int)) == fl512 ((32 * f : Nat) : Int)
def tCmp (a b : Nat) : Bool := Float64.cmp (fl512 (a : Nat)) (fl512 (b : Nat)) == some (compare a b)
theorem tab_sub : ((List.range 4).all fun r => (List.range 8).all fun q => (List.range 17).all fun f => tSub (r + 1) (q + 1) f) = true := by decide +kernel
theorem tab_div : ((List.range 4).all fun r => (List.range 8).all fun q => (List.range 17).all fun f => tDiv (r + 1) (q + 1) f) = true := by decide +kernel
theorem tab_cmp : ((List.range 4).all fun r => (List.range 8).all fun q => (List.range 17).all fun f => tCmp (128 * (r + 1)) (prt (r + 1) (q + 1) f) && tCmp (prt (r + 1) (q + 1) f) (128 * (r + 1))
  && tCmp (prt (r + 1) (q + 1) f) (prt (r + 1) (q + 1) 16) && tCmp (prt (r + 1) (q + 1) 16) (prt (r + 1) (q + 1) f)) = true := by decide +kernel
theorem tab_s : ((List.range 4).all fun r => (List.range 8).all fun q => Float64.div (fl512 ((16 * (r + 1) * (q + 1) : Nat) : Int)) (fl512 ((128 * (r + 1) : Nat) : Int)) == fl8 ((q + 1 : Nat) : Int)) = true := by decide +kernel
theorem tab_v : ((List.range 5).all fun r => fl512 ((128 * r : Nat) : Int) == fl4 (r : Int)) = true := by decide +kernel
theorem tab_self : (((List.range 96).all fun p => Float64.cmp (fl96 (p : Int)) (fl96 (p : Int)) == some .eq) && ((List.range 9).all fun p => Float64.cmp (fl8 (p : Int)) (fl8 (p : Int)) == some .eq) && ((List.range 5).all fun p => Float64.cmp (fl4 (p : Int)) (fl4 (p : Int)) == some .eq)) = true := by decide +kernel
/-- the move: 96 times the hue, rounded -/
theorem tab_mov : ((List.range 96).all fun p => movedTo (fl96 (p : Int)) 0 == (p : Int) && Float64.isFinite (Float64.add (Float64.mul (Float64.ofInt 96) (fl96 (p : Int))) half)) = true := by decide +kernel
end Mine
end PartF1

section PartF2
open PySem PySem.W PyProof.Rows PySem.Spec PySem.Calls
set_option maxRecDepth 1000000
set_option maxHeartbeats 40000000
namespace Mine
theorem tab_six : ((List.range 192).all fun p => Float64.isFinite (Float64.mul (fl96 (p : Int)) six) && hsvI (fl96 (p : Int)) == ((p / 16 : Nat) : Int) && hsvF (fl96 (p : Int)) == fl512 ((32 * (p % 16) : Nat) : Int)) = true := by decide +kernel
theorem tab_p : ((List.range 5).all fun r => (List.range 8).all fun q => hsvP (fl8 ((q + 1 : Nat) : Int)) (fl4 (r : Int)) == fl512 (prt r (q + 1) 16 : Nat)) = true := by decide +kernel
theorem tab_q : ((List.range 16).all fun g => (List.range 8).all fun q => (List.range 5).all fun r => hsvQ (fl512 ((32 * g : Nat) : Int)) (fl8 ((q + 1 : Nat) : Int)) (fl4 (r : Int)) == fl512 (prt r (q + 1) g : Nat)) = true := by decide +kernel
theorem tab_t : ((List.range 16).all fun g => (List.range 8).all fun q => (List.range 5).all fun r => hsvT (fl512 ((32 * g : Nat) : Int)) (fl8 ((q + 1 : Nat) : Int)) (fl4 (r : Int)) == fl512 (prt r (q + 1) (16 - g) : Nat)) = true := by decide +kernel
theorem tab_zero : (Float64.cmp (fl8 0) 0 == some Ordering.eq) = true ∧ ((List.range 8).all fun q => !(Float64.cmp (fl8 ((q + 1 : Nat) : Int)) 0 == some Ordering.eq)) = true := by decide +kernel
theorem tab_whole : ((List.range 513).all fun n => Float64.isFinite (Float64.mul (Float64.ofInt 512) (fl512 (n : Int))) && Flt.toInt Float64.truncOf (Float64.mul (Float64.ofInt 512) (fl512 (n : Int))) == (n : Int) && Float64.cmpInt (Float64.mul (Float64.ofInt 512) (fl512 (n : Int))) (n : Int) == some Ordering.eq) = true := by decide +kernel
end Mine
end PartF2

section PartF3
open PySem PySem.W PyProof.Rows PySem.Spec PySem.Calls
set_option maxRecDepth 1000000
set_option maxHeartbeats 40000000
namespace Mine
theorem of_all {n : Nat} {f : Nat → Bool} (h : ((List.range n).all f) = true) {i : Nat} (hi : i < n) : f i = true := List.all_eq_true.mp h i (List.mem_range.mpr hi)
/-- the parts of a colour made, in 512ths -/
def hsvN (p q r : Nat) : Nat × Nat × Nat :=
  if q = 0 then (128 * r, 128 * r, 128 * r)
  else match (p / 16) % 6 with
    | 0 => (128 * r, prt r q (16 - p % 16), prt r q 16)
    | 1 => (prt r q (p % 16), 128 * r, prt r q 16)
    | 2 => (prt r q 16, 128 * r, prt r q (16 - p % 16))
    | 3 => (prt r q 16, prt r q (p % 16), 128 * r)
    | 4 => (prt r q (16 - p % 16), prt r q 16, 128 * r)
    | _ => (128 * r, prt r q 16, prt r q (p % 16))
def codeOf (x : Nat × Nat × Nat) : Int := (((x.1 : Int) * 1024 + x.2.1) * 1024 + x.2.2)
def fallN (p : Nat) : Nat × Nat × Nat := match p / 16 with
    | 0 => (0, 16 - p % 16, 16)
    | 1 => (p % 16, 0, 16)
    | 2 => (16, 0, 16 - p % 16)
    | 3 => (16, p % 16, 0)
    | 4 => (16 - p % 16, 16, 0)
    | _ => (0, 16, p % 16)
theorem tab_fall : ((List.range 96).all fun p => fallOf (p : Int) 0 == ((fallN p).1 : Int) && fallOf (p : Int) 32 == ((fallN p).2.1 : Int) && fallOf (p : Int) 64 == ((fallN p).2.2 : Int)) = true := by decide +kernel
theorem prt_int {r q f : Nat} (hq : q ≤ 8) (hf : f ≤ 16) : ((prt r q f : Nat) : Int) = (r : Int) * (128 - (q : Int) * (f : Int)) := by
  unfold prt
  have h : q * f ≤ 128 := Nat.le_trans (Nat.mul_le_mul hq hf) (by decide)
  rw [Int.natCast_mul, Int.ofNat_sub h, Int.natCast_mul]
  rfl
theorem fallN_le (p : Nat) : (fallN p).1 ≤ 16 ∧ (fallN p).2.1 ≤ 16 ∧ (fallN p).2.2 ≤ 16 := by
  unfold fallN
  have := Nat.mod_lt p (show 0 < 16 by decide)
  split <;> refine ⟨?_, ?_, ?_⟩ <;> dsimp only <;> omega
theorem hsvN_fall {p q r : Nat} (hq : q ≠ 0) : hsvN p q r = (prt r q (fallN (p % 96)).1, prt r q (fallN (p % 96)).2.1, prt r q (fallN (p % 96)).2.2) := by
  have e1 : (p / 16) % 6 = (p % 96) / 16 := by omega
  have e2 : p % 16 = (p % 96) % 16 := by omega
  have e0 : prt r q 0 = 128 * r := by unfold prt; rw [Nat.mul_zero, Nat.sub_zero, Nat.mul_comm]
  have hs : (p % 96) / 16 < 6 := by omega
  unfold hsvN fallN
  rw [if_neg hq, e1, e2]
  generalize (p % 96) % 16 = g
  generalize (p % 96) / 16 = s at hs
  match s, hs with
  | 0, _ => first | (rw [← e0]; done) | (rw [← e0]; rfl)
  | 1, _ => first | (rw [← e0]; done) | (rw [← e0]; rfl)
  | 2, _ => first | (rw [← e0]; done) | (rw [← e0]; rfl)
  | 3, _ => first | (rw [← e0]; done) | (rw [← e0]; rfl)
  | 4, _ => first | (rw [← e0]; done) | (rw [← e0]; rfl)
  | 5, _ => first | (rw [← e0]; done) | (rw [← e0]; rfl)
theorem code_parts {p q r : Nat} (hp : p < 96) (hq : q ≤ 8) : dueOf p q r = codeOf (prt r q (fallN p).1, prt r q (fallN p).2.1, prt r q (fallN p).2.2) := by
  have h := of_all tab_fall hp
  simp only [Bool.and_eq_true, beq_iff_eq] at h
  have hl := fallN_le p
  unfold dueOf codeOf partOf
  dsimp only
  rw [h.1.1, h.1.2, h.2, prt_int hq hl.1, prt_int hq hl.2.1, prt_int hq hl.2.2]
  omega
theorem code_of {p q r : Nat} (hq : q ≤ 8) : codeOf (hsvN p q r) = codeN (nameOf3 p q r) := by
  unfold nameOf3
  by_cases h0 : q = 0
  · subst h0
    rw [if_pos (by simp)]
    show codeOf (hsvN p 0 r) = dueOf ((0 : Nat) : Int) ((0 : Nat) : Int) (r : Int)
    rw [code_parts (by decide) (by decide)]
    unfold hsvN prt
    simp [Nat.mul_comm]
  · by_cases hr : r = 0
    · subst hr
      rw [if_pos (by simp)]
      show codeOf (hsvN p q 0) = dueOf ((0 : Nat) : Int) ((0 : Nat) : Int) ((0 : Nat) : Int)
      rw [code_parts (by decide) (by decide), hsvN_fall h0]
      unfold prt
      simp
    · rw [if_neg (Int.mul_ne_zero (by omega) (by omega))]
      have e : ((p : Int).fmod 96) = ((p % 96 : Nat) : Int) := by rw [Int.fmod_eq_emod_of_nonneg _ (by decide)]; rfl
      show _ = dueOf ((p : Int).fmod 96) q r
      rw [e, code_parts (Nat.mod_lt _ (by decide)) hq, hsvN_fall h0]
end Mine
end PartF3

section PartF4
open PySem PySem.W PyProof.Rows PySem.Spec PySem.Calls
set_option maxRecDepth 1000000
set_option maxHeartbeats 40000000
namespace Mine
theorem six_of {p : Nat} (hp : p < 192) : Float64.isFinite (Float64.mul (fl96 (p : Int)) six) = true ∧ hsvI (fl96 (p : Int)) = ((p / 16 : Nat) : Int) ∧ hsvF (fl96 (p : Int)) = fl512 ((32 * (p % 16) : Nat) : Int) := by
  have h := of_all tab_six hp
  simp only [Bool.and_eq_true, beq_iff_eq] at h
  exact ⟨h.1.1, h.1.2, h.2⟩
theorem v_of {r : Nat} (hr : r ≤ 4) : fl4 (r : Int) = fl512 ((128 * r : Nat) : Int) := by
  have h := of_all tab_v (i := r) (by omega)
  simp only [beq_iff_eq] at h
  exact h.symm
theorem p_of {q r : Nat} (h0 : q ≠ 0) (hq : q ≤ 8) (hr : r ≤ 4) : hsvP (fl8 (q : Int)) (fl4 (r : Int)) = fl512 (prt r q 16 : Nat) := by
  have h := of_all (of_all tab_p (i := r) (by omega)) (i := q - 1) (by omega)
  simp only [beq_iff_eq] at h
  rw [show q - 1 + 1 = q by omega] at h
  exact h
theorem q_of {g q r : Nat} (hg : g < 16) (h0 : q ≠ 0) (hq : q ≤ 8) (hr : r ≤ 4) : hsvQ (fl512 ((32 * g : Nat) : Int)) (fl8 (q : Int)) (fl4 (r : Int)) = fl512 (prt r q g : Nat) := by
  have h := of_all (of_all (of_all tab_q hg) (i := q - 1) (by omega)) (i := r) (by omega)
  simp only [beq_iff_eq] at h
  rw [show q - 1 + 1 = q by omega] at h
  exact h
theorem t_of {g q r : Nat} (hg : g < 16) (h0 : q ≠ 0) (hq : q ≤ 8) (hr : r ≤ 4) : hsvT (fl512 ((32 * g : Nat) : Int)) (fl8 (q : Int)) (fl4 (r : Int)) = fl512 (prt r q (16 - g) : Nat) := by
  have h := of_all (of_all (of_all tab_t hg) (i := q - 1) (by omega)) (i := r) (by omega)
  simp only [beq_iff_eq] at h
  rw [show q - 1 + 1 = q by omega] at h
  exact h
theorem whole_of {n : Nat} (hn : n ≤ 512) : G512 (fl512 (n : Int)) (n : Int) := by
  have h := of_all tab_whole (i := n) (by omega)
  simp only [Bool.and_eq_true, beq_iff_eq] at h
  exact ⟨h.1.1, h.1.2, by rw [h.2]; rfl, by omega, by omega⟩
theorem prt_le {r q f : Nat} (hr : r ≤ 4) : prt r q f ≤ 512 := by
  unfold prt
  exact Nat.le_trans (Nat.mul_le_mul hr (Nat.sub_le _ _)) (by decide)
theorem hsv_of {p q r : Nat} (hp : p < 192) (hq : q ≤ 8) (hr : r ≤ 4) : hsvR (fl96 (p : Int)) (fl8 (q : Int)) (fl4 (r : Int)) = (fl512 ((hsvN p q r).1 : Int), fl512 ((hsvN p q r).2.1 : Int), fl512 ((hsvN p q r).2.2 : Int)) := by
  obtain ⟨_, hi, hf⟩ := six_of hp
  unfold hsvR hsvN
  by_cases h0 : q = 0
  · subst h0
    rw [if_pos (by exact tab_zero.1), if_pos rfl, v_of hr]
  · have hz := of_all tab_zero.2 (i := q - 1) (by omega)
    rw [show q - 1 + 1 = q by omega] at hz
    rw [if_neg (by intro e; rw [e] at hz; cases hz), if_neg h0, hi, hf, p_of h0 hq hr, q_of (Nat.mod_lt _ (by decide)) h0 hq hr, t_of (Nat.mod_lt _ (by decide)) h0 hq hr, v_of hr]
    have e : (((p / 16 : Nat) : Int).fmod 6) = ((p / 16 % 6 : Nat) : Int) := by rw [Int.fmod_eq_emod_of_nonneg _ (by decide)]; rfl
    rw [e]
    have hs : p / 16 % 6 < 6 := Nat.mod_lt _ (by decide)
    generalize p / 16 % 6 = s at hs
    match s, hs with
    | 0, _ => rfl
    | 1, _ => rfl
    | 2, _ => rfl
    | 3, _ => rfl
    | 4, _ => rfl
    | 5, _ => rfl
theorem hsvN_le {p q r : Nat} (hr : r ≤ 4) : (hsvN p q r).1 ≤ 512 ∧ (hsvN p q r).2.1 ≤ 512 ∧ (hsvN p q r).2.2 ≤ 512 := by
  have h128 : 128 * r ≤ 512 := by omega
  unfold hsvN
  split
  · exact ⟨h128, h128, h128⟩
  · split <;> exact ⟨by first | exact h128 | exact prt_le hr, by first | exact h128 | exact prt_le hr, by first | exact h128 | exact prt_le hr⟩
/-- a colour made from its place, share and value tells the code of its name -/
theorem made_out {p q r : Nat} (hp : p < 192) (hq : q ≤ 8) (hr : r ≤ 4) : ∃ i j k, G512 (hsvR (fl96 (p : Int)) (fl8 (q : Int)) (fl4 (r : Int))).1 i ∧ G512 (hsvR (fl96 (p : Int)) (fl8 (q : Int)) (fl4 (r : Int))).2.1 j ∧ G512 (hsvR (fl96 (p : Int)) (fl8 (q : Int)) (fl4 (r : Int))).2.2 k ∧ codeN (nameOf3 p q r) = (i * 1024 + j) * 1024 + k := by
  have hl := hsvN_le (p := p) (q := q) hr
  rw [hsv_of hp hq hr, ← code_of hq]
  exact ⟨_, _, _, whole_of hl.1, whole_of hl.2.1, whole_of hl.2.2, rfl⟩
theorem made_six {p : Nat} (hp : p < 192) : Float64.isFinite (Float64.mul (fl96 (p : Int)) six) = true ∧ (0 ≤ hsvI (fl96 (p : Int)) ∧ hsvI (fl96 (p : Int)) < 1000) := by
  obtain ⟨h1, h2, _⟩ := six_of hp
  refine ⟨h1, ?_⟩
  rw [h2]; omega
theorem drawn_ok {p q r : Nat} (hp : p < 192) (hq : q ≤ 8) (hr : r ≤ 4) : DrawnOk p q r (codeN (nameOf3 p q r)) :=
  ⟨(made_six hp).1, (made_six hp).2, made_out hp hq hr⟩
end Mine
end PartF4

section PartF5
open PySem PySem.W PyProof.Rows PySem.Spec PySem.Calls
set_option maxRecDepth 1000000
set_option maxHeartbeats 40000000
namespace Mine
/-- the hue from the three falls -/
def hueY (x : Nat × Nat × Nat) : UInt64 :=
  let c (f : Nat) : UInt64 := fl512 ((32 * f : Nat) : Int)
  (Float64.divmod (Float64.div (if x.1 = 0 then Float64.sub (c x.2.2) (c x.2.1) else if x.2.1 = 0 then Float64.sub (Float64.add two (c x.1)) (c x.2.2) else Float64.sub (Float64.add four (c x.2.1)) (c x.1)) six) one).2
theorem tab_hueY : ((List.range 96).all fun p => hueY (fallN p) == fl96 (p : Int)) = true := by decide +kernel
theorem tab_grey : ((List.range 5).all fun k => readR (codeN (0, 0, (k : Int))) == (fl96 0, fl8 0, fl4 (k : Int)) && (let c := codeN (0, 0, (k : Int)); Float64.cmp (fMin (fl512 (c.fdiv 1048576)) (fl512 ((c.fdiv 1024).fmod 1024)) (fl512 (c.fmod 1024))) (fMax (fl512 (c.fdiv 1048576)) (fl512 ((c.fdiv 1024).fmod 1024)) (fl512 (c.fmod 1024))) == some Ordering.eq)) = true := by decide +kernel
theorem code_split {a b d : Nat} (ha : a ≤ 512) (hb : b ≤ 512) (hd : d ≤ 512) : (codeOf (a, b, d)).fdiv 1048576 = a ∧ ((codeOf (a, b, d)).fdiv 1024).fmod 1024 = b ∧ (codeOf (a, b, d)).fmod 1024 = d ∧ 0 ≤ codeOf (a, b, d) ∧ codeOf (a, b, d) < 2 ^ 31 := by
  unfold codeOf
  rw [Int.fdiv_eq_ediv_of_nonneg _ (by decide), Int.fdiv_eq_ediv_of_nonneg _ (by decide), Int.fmod_eq_emod_of_nonneg _ (by decide), Int.fmod_eq_emod_of_nonneg _ (by decide)]
  dsimp only
  omega
theorem sub_of {r q f : Nat} (h1 : 1 ≤ r ∧ r ≤ 4) (h2 : 1 ≤ q ∧ q ≤ 8) (hf : f ≤ 16) : Float64.sub (fl512 ((128 * r : Nat) : Int)) (fl512 (prt r q f : Nat)) = fl512 ((r * q * f : Nat) : Int) := by
  have h := of_all (of_all (of_all tab_sub (i := r - 1) (by omega)) (i := q - 1) (by omega)) (i := f) (by omega)
  unfold tSub at h
  rw [show r - 1 + 1 = r by omega, show q - 1 + 1 = q by omega] at h
  exact eq_of_beq h
theorem div_of {r q f : Nat} (h1 : 1 ≤ r ∧ r ≤ 4) (h2 : 1 ≤ q ∧ q ≤ 8) (hf : f ≤ 16) : Float64.div (fl512 ((r * q * f : Nat) : Int)) (fl512 ((16 * r * q : Nat) : Int)) = fl512 ((32 * f : Nat) : Int) := by
  have h := of_all (of_all (of_all tab_div (i := r - 1) (by omega)) (i := q - 1) (by omega)) (i := f) (by omega)
  unfold tDiv at h
  rw [show r - 1 + 1 = r by omega, show q - 1 + 1 = q by omega] at h
  exact eq_of_beq h
theorem s_of {r q : Nat} (h1 : 1 ≤ r ∧ r ≤ 4) (h2 : 1 ≤ q ∧ q ≤ 8) : Float64.div (fl512 ((16 * r * q : Nat) : Int)) (fl512 ((128 * r : Nat) : Int)) = fl8 (q : Int) := by
  have h := of_all (of_all tab_s (i := r - 1) (by omega)) (i := q - 1) (by omega)
  rw [show r - 1 + 1 = r by omega, show q - 1 + 1 = q by omega] at h
  exact eq_of_beq h
theorem cmp_of {r q f : Nat} (h1 : 1 ≤ r ∧ r ≤ 4) (h2 : 1 ≤ q ∧ q ≤ 8) (hf : f ≤ 16) :
    Float64.cmp (fl512 ((128 * r : Nat) : Int)) (fl512 (prt r q f : Nat)) = some (compare (128 * r) (prt r q f)) ∧ Float64.cmp (fl512 (prt r q f : Nat)) (fl512 ((128 * r : Nat) : Int)) = some (compare (prt r q f) (128 * r)) ∧
    Float64.cmp (fl512 (prt r q f : Nat)) (fl512 (prt r q 16 : Nat)) = some (compare (prt r q f) (prt r q 16)) ∧ Float64.cmp (fl512 (prt r q 16 : Nat)) (fl512 (prt r q f : Nat)) = some (compare (prt r q 16) (prt r q f)) := by
  have h := of_all (of_all (of_all tab_cmp (i := r - 1) (by omega)) (i := q - 1) (by omega)) (i := f) (by omega)
  rw [show r - 1 + 1 = r by omega, show q - 1 + 1 = q by omega] at h
  unfold tCmp at h
  simp only [Bool.and_eq_true, beq_iff_eq] at h
  exact ⟨h.1.1.1, h.1.1.2, h.1.2, h.2⟩
end Mine
end PartF5

section PartF6
open PySem PySem.W PyProof.Rows PySem.Spec PySem.Calls
set_option maxRecDepth 1000000
set_option maxHeartbeats 40000000
namespace Mine
abbrev M5 (r q f : Nat) : UInt64 := fl512 ((prt r q f : Nat) : Int)
theorem prt_zero (r q : Nat) : prt r q 0 = 128 * r := by unfold prt; rw [Nat.mul_zero, Nat.sub_zero, Nat.mul_comm]
theorem prt_lt {r q f g : Nat} (h1 : 1 ≤ r ∧ r ≤ 4) (h2 : 1 ≤ q ∧ q ≤ 8) (hf : f ≤ 16) (hg : g ≤ 16) : prt r q f < prt r q g ↔ g < f := by
  unfold prt
  have a1 : q * f ≤ 128 := Nat.le_trans (Nat.mul_le_mul h2.2 hf) (by decide)
  have a2 : q * g ≤ 128 := Nat.le_trans (Nat.mul_le_mul h2.2 hg) (by decide)
  rw [Nat.mul_lt_mul_left (by omega)]
  constructor
  · intro h
    have h3 : q * g < q * f := by omega
    exact Nat.lt_of_mul_lt_mul_left h3
  · intro h
    have h3 : q * g < q * f := Nat.mul_lt_mul_of_pos_left h (by omega)
    omega
theorem cmp_lt {r q f g : Nat} (h1 : 1 ≤ r ∧ r ≤ 4) (h2 : 1 ≤ q ∧ q ≤ 8) (hf : f ≤ 16) (hg : g ≤ 16) (hp : f = 0 ∨ g = 0 ∨ f = 16 ∨ g = 16) : Float64.cmp (M5 r q f) (M5 r q g) = some (compare g f) := by
  have key : Float64.cmp (M5 r q f) (M5 r q g) = some (compare (prt r q f) (prt r q g)) := by
    rcases hp with rfl | rfl | rfl | rfl
    · have := (cmp_of h1 h2 hg).1; rw [← prt_zero r q] at this; exact this
    · have := (cmp_of h1 h2 hf).2.1; rw [← prt_zero r q] at this; exact this
    · exact (cmp_of h1 h2 hg).2.2.2
    · exact (cmp_of h1 h2 hf).2.2.1
  rw [key]
  congr 1
  have l1 := prt_lt h1 h2 hf hg
  have l2 := prt_lt h1 h2 hg hf
  rw [Nat.compare_eq_ite_lt, Nat.compare_eq_ite_lt]
  by_cases c1 : g < f
  · rw [if_pos (l1.mpr c1), if_pos c1]
  · rw [if_neg (fun h => c1 (l1.mp h)), if_neg c1]
    by_cases c2 : f < g
    · rw [if_pos (l2.mpr c2), if_pos c2]
    · rw [if_neg (fun h => c2 (l2.mp h)), if_neg c2]
end Mine
end PartF6

section PartF7
open PySem PySem.W PyProof.Rows PySem.Spec PySem.Calls
set_option maxRecDepth 1000000
set_option maxHeartbeats 40000000
namespace Mine
theorem lt_b {r q f g : Nat} (h1 : 1 ≤ r ∧ r ≤ 4) (h2 : 1 ≤ q ∧ q ≤ 8) (hf : f ≤ 16) (hg : g ≤ 16) (hp : f = 0 ∨ g = 0 ∨ f = 16 ∨ g = 16) : ((Float64.cmp (M5 r q f) (M5 r q g) == some Ordering.lt) = true) = (g < f) := by
  rw [cmp_lt h1 h2 hf hg hp, Nat.compare_eq_ite_lt]
  by_cases c1 : g < f
  · rw [if_pos c1]; simp [c1]
  · rw [if_neg c1]
    by_cases c2 : f < g
    · rw [if_pos c2]; simp [c1]
    · rw [if_neg c2]; simp [c1]
theorem eq_b {r q f g : Nat} (h1 : 1 ≤ r ∧ r ≤ 4) (h2 : 1 ≤ q ∧ q ≤ 8) (hf : f ≤ 16) (hg : g ≤ 16) (hp : f = 0 ∨ g = 0 ∨ f = 16 ∨ g = 16) : ((Float64.cmp (M5 r q f) (M5 r q g) == some Ordering.eq) = true) = (f = g) := by
  rw [cmp_lt h1 h2 hf hg hp, Nat.compare_eq_ite_lt]
  by_cases c1 : g < f
  · rw [if_pos c1]; simp; omega
  · rw [if_neg c1]
    by_cases c2 : f < g
    · rw [if_pos c2]; simp; omega
    · rw [if_neg c2]; simp; omega
/-- one is nought, one is 16 -/
def Tri (x : Nat × Nat × Nat) : Prop := ∃ f, f ≤ 16 ∧ (x = (0, f, 16) ∨ x = (f, 0, 16) ∨ x = (16, 0, f) ∨ x = (16, f, 0) ∨ x = (f, 16, 0) ∨ x = (0, 16, f))
theorem fallN_tri (p : Nat) : Tri (fallN p) := by
  have hg : p % 16 < 16 := Nat.mod_lt _ (by decide)
  unfold fallN
  split
  · exact ⟨16 - p % 16, by omega, .inl rfl⟩
  · exact ⟨p % 16, by omega, .inr (.inl rfl)⟩
  · exact ⟨16 - p % 16, by omega, .inr (.inr (.inl rfl))⟩
  · exact ⟨p % 16, by omega, .inr (.inr (.inr (.inl rfl)))⟩
  · exact ⟨16 - p % 16, by omega, .inr (.inr (.inr (.inr (.inl rfl))))⟩
  · exact ⟨p % 16, by omega, .inr (.inr (.inr (.inr (.inr rfl))))⟩
theorem max_tri {r q : Nat} (h1 : 1 ≤ r ∧ r ≤ 4) (h2 : 1 ≤ q ∧ q ≤ 8) {x : Nat × Nat × Nat} (hx : Tri x) : fMax (M5 r q x.1) (M5 r q x.2.1) (M5 r q x.2.2) = M5 r q 0 := by
  obtain ⟨f, hf, rfl | rfl | rfl | rfl | rfl | rfl⟩ := hx <;> unfold fMax <;> dsimp only <;>
  · split <;> rename_i ha <;> split <;> rename_i hb <;> rw [lt_b h1 h2 (by omega) (by omega) (by omega)] at ha hb <;> first | rfl | (exfalso; omega) | (rw [show f = 0 by omega])
theorem min_tri {r q : Nat} (h1 : 1 ≤ r ∧ r ≤ 4) (h2 : 1 ≤ q ∧ q ≤ 8) {x : Nat × Nat × Nat} (hx : Tri x) : fMin (M5 r q x.1) (M5 r q x.2.1) (M5 r q x.2.2) = M5 r q 16 := by
  obtain ⟨f, hf, rfl | rfl | rfl | rfl | rfl | rfl⟩ := hx <;> unfold fMin <;> dsimp only <;>
  · split <;> rename_i ha <;> split <;> rename_i hb <;> rw [lt_b h1 h2 (by omega) (by omega) (by omega)] at ha hb <;> first | rfl | (exfalso; omega) | (rw [show f = 16 by omega])
end Mine
end PartF7

section PartF8
open PySem PySem.W PyProof.Rows PySem.Spec PySem.Calls
set_option maxRecDepth 1000000
set_option maxHeartbeats 40000000
namespace Mine
theorem tri_le {x : Nat × Nat × Nat} (hx : Tri x) : x.1 ≤ 16 ∧ x.2.1 ≤ 16 ∧ x.2.2 ≤ 16 := by
  obtain ⟨f, hf, rfl | rfl | rfl | rfl | rfl | rfl⟩ := hx <;> dsimp only <;> omega
theorem part_div {r q f : Nat} (h1 : 1 ≤ r ∧ r ≤ 4) (h2 : 1 ≤ q ∧ q ≤ 8) (hf : f ≤ 16) : Float64.div (Float64.sub (M5 r q 0) (M5 r q f)) (Float64.sub (M5 r q 0) (M5 r q 16)) = fl512 ((32 * f : Nat) : Int) := by
  unfold M5
  rw [prt_zero, sub_of h1 h2 hf, sub_of h1 h2 (Nat.le_refl 16), show r * q * 16 = 16 * r * q by rw [Nat.mul_comm (r * q), Nat.mul_assoc]]
  exact div_of h1 h2 hf
theorem rgb_tri {r q : Nat} (h1 : 1 ≤ r ∧ r ≤ 4) (h2 : 1 ≤ q ∧ q ≤ 8) {x : Nat × Nat × Nat} (hx : Tri x) : rgbR (M5 r q x.1) (M5 r q x.2.1) (M5 r q x.2.2) = (hueY x, fl8 (q : Int), fl4 (r : Int)) := by
  have hl := tri_le hx
  unfold rgbR rgbD
  rw [max_tri h1 h2 hx, min_tri h1 h2 hx]
  rw [if_neg (by rw [eq_b h1 h2 (by omega) (by omega) (by omega)]; omega)]
  rw [part_div h1 h2 hl.1, part_div h1 h2 hl.2.1, part_div h1 h2 hl.2.2]
  have e2 : Float64.div (Float64.sub (M5 r q 0) (M5 r q 16)) (M5 r q 0) = fl8 (q : Int) := by
    unfold M5
    rw [prt_zero, sub_of h1 h2 (Nat.le_refl 16), show r * q * 16 = 16 * r * q by rw [Nat.mul_comm (r * q), Nat.mul_assoc]]
    exact s_of h1 h2
  have e3 : M5 r q 0 = fl4 (r : Int) := by
    unfold M5
    rw [prt_zero, v_of h1.2]
  rw [e2]
  unfold hueY
  dsimp only
  congr 1
  · by_cases c1 : x.1 = 0
    · rw [if_pos (by rw [eq_b h1 h2 (by omega) (by omega) (by omega)]; exact c1), if_pos c1]
    · rw [if_neg (by rw [eq_b h1 h2 (by omega) (by omega) (by omega)]; exact c1), if_neg c1]
      by_cases c2 : x.2.1 = 0
      · rw [if_pos (by rw [eq_b h1 h2 (by omega) (by omega) (by omega)]; exact c2), if_pos c2]
      · rw [if_neg (by rw [eq_b h1 h2 (by omega) (by omega) (by omega)]; exact c2), if_neg c2]
  · rw [e3]
end Mine
end PartF8

section PartF9
open PySem PySem.W PyProof.Rows PySem.Spec PySem.Calls
set_option maxRecDepth 1000000
set_option maxHeartbeats 40000000
namespace Mine
theorem tab_nz : ((List.range 4).all fun r => !(Float64.isZero (fl512 ((128 * (r + 1) : Nat) : Int))) && ((List.range 8).all fun q => !(Float64.isZero (fl512 (((r + 1) * (q + 1) * 16 : Nat) : Int))))) = true := by decide +kernel
theorem grey_split : ∀ k : Nat, k ≤ 4 → 0 ≤ codeN (0, 0, (k : Int)) ∧ codeN (0, 0, (k : Int)) < 2 ^ 31 := by decide +kernel
/-- a name that the law tells -/
def Canon (n : Int × Int × Int) : Prop := (∃ k : Nat, k ≤ 4 ∧ n = (0, 0, (k : Int))) ∨ ∃ p q r : Nat, p < 96 ∧ (1 ≤ q ∧ q ≤ 8) ∧ (1 ≤ r ∧ r ≤ 4) ∧ n = ((p : Int), (q : Int), (r : Int))
theorem read_all {n : Int × Int × Int} (h : Canon n) : (0 ≤ codeN n ∧ codeN n < 2 ^ 31) ∧ readOk (fl512 ((codeN n).fdiv 1048576)) (fl512 (((codeN n).fdiv 1024).fmod 1024)) (fl512 ((codeN n).fmod 1024)) ∧ readR (codeN n) = (fl96 n.1, fl8 n.2.1, fl4 n.2.2) := by
  rcases h with ⟨k, hk, rfl⟩ | ⟨p, q, r, hp, hq, hr, rfl⟩
  · have g := of_all tab_grey (i := k) (by omega)
    simp only [Bool.and_eq_true, beq_iff_eq] at g
    refine ⟨grey_split k hk, ?_, g.1⟩
    intro e
    exfalso
    have g2 := g.2
    rw [g2] at e
    cases e
  · have e : codeN ((p : Int), (q : Int), (r : Int)) = codeOf (prt r q (fallN p).1, prt r q (fallN p).2.1, prt r q (fallN p).2.2) := code_parts hp hq.2
    have sp := code_split (prt_le (r := r) (q := q) (f := (fallN p).1) hr.2) (prt_le (r := r) (q := q) (f := (fallN p).2.1) hr.2) (prt_le (r := r) (q := q) (f := (fallN p).2.2) hr.2)
    rw [e]
    have ht := fallN_tri p
    refine ⟨⟨sp.2.2.2.1, sp.2.2.2.2⟩, ?_, ?_⟩
    · rw [sp.1, sp.2.1, sp.2.2.1]
      intro _
      have mx := max_tri hr hq ht
      have mn := min_tri hr hq ht
      unfold M5 at mx mn
      rw [mx, mn]
      have nz := of_all tab_nz (i := r - 1) (by omega)
      simp only [Bool.and_eq_true] at nz
      have nz2 := of_all nz.2 (i := q - 1) (by omega)
      rw [show r - 1 + 1 = r by omega] at nz nz2
      rw [show q - 1 + 1 = q by omega] at nz2
      rw [prt_zero, sub_of hr hq (Nat.le_refl 16)]
      constructor
      · intro z; rw [z] at nz; cases nz.1
      · intro z; rw [z] at nz2; cases nz2
    · unfold readR
      rw [sp.1, sp.2.1, sp.2.2.1]
      have rt := rgb_tri hr hq ht
      unfold M5 at rt
      rw [rt]
      have hh := of_all tab_hueY hp
      rw [eq_of_beq hh]
end Mine
end PartF9

section PartF10
open PySem PySem.W PyProof.Rows PySem.Spec PySem.Calls
set_option maxRecDepth 1000000
set_option maxHeartbeats 40000000
namespace Mine
theorem moved_of {p : Nat} (hp : p < 96) (s : Nat) : movedTo (fl96 (p : Int)) (s : Int) = ((p + s : Nat) : Int) ∧ Float64.isFinite (Float64.add (Float64.mul (Float64.ofInt 96) (fl96 (p : Int))) half) = true := by
  have h := of_all tab_mov hp
  simp only [Bool.and_eq_true, beq_iff_eq] at h
  refine ⟨?_, h.2⟩
  have h1 := h.1
  unfold movedTo at h1 ⊢
  omega
theorem canon_nat {n : Int × Int × Int} (h : Canon n) : ∃ p q r : Nat, p < 96 ∧ q ≤ 8 ∧ r ≤ 4 ∧ n = ((p : Int), (q : Int), (r : Int)) := by
  rcases h with ⟨k, hk, rfl⟩ | ⟨p, q, r, hp, hq, hr, rfl⟩
  · exact ⟨0, 0, k, by decide, by decide, hk, rfl⟩
  · exact ⟨p, q, r, hp, hq.2, hr.2, rfl⟩
theorem turn_ok {n : Int × Int × Int} (h : Canon n) {s : Nat} (hs : s ≤ 96) : TurnOk (codeN n) (s : Int) (codeN (nameOf3 (n.1 + s) n.2.1 n.2.2)) := by
  obtain ⟨rg, ro, rr⟩ := read_all h
  obtain ⟨p, q, r, hp, hq, hr, rfl⟩ := canon_nat h
  dsimp only at rr ⊢
  have mv := moved_of hp s
  have e1 : (readR (codeN ((p : Int), (q : Int), (r : Int)))).1 = fl96 (p : Int) := by rw [rr]
  have hP : p + s < 192 := by omega
  have ms := made_six hP
  have mo := made_out (q := q) (r := r) hP hq hr
  refine ⟨rg, ro, ?_, ?_, ?_, ?_, ?_⟩
  · rw [e1]; exact mv.2
  · rw [e1, mv.1]; omega
  · rw [e1, mv.1]; exact ms.1
  · rw [e1, mv.1]; exact ms.2
  · unfold turnR
    rw [rr]
    dsimp only
    rw [mv.1]
    have e2 : ((p : Int) + (s : Int)) = ((p + s : Nat) : Int) := by omega
    rw [e2]
    exact mo
end Mine
end PartF10

section PartF11
open PySem PySem.W PyProof.Rows PySem.Spec PySem.Calls
set_option maxRecDepth 1000000
set_option maxHeartbeats 40000000
namespace Mine
theorem inj8 : ((List.range 9).all fun a => (List.range 9).all fun b => !(fl8 (a : Int) == fl8 (b : Int)) || a == b) = true := by decide +kernel
theorem inj4 : ((List.range 5).all fun a => (List.range 5).all fun b => !(fl4 (a : Int) == fl4 (b : Int)) || a == b) = true := by decide +kernel
theorem codeN_inj {n m : Int × Int × Int} (hn : Canon n) (hm : Canon m) (e : codeN n = codeN m) : n = m := by
  have r1 := (read_all hn).2.2
  have r2 := (read_all hm).2.2
  rw [e, r2] at r1
  obtain ⟨p, q, r, hp, hq, hr, rfl⟩ := canon_nat hn
  obtain ⟨p', q', r', hp', hq', hr', rfl⟩ := canon_nat hm
  dsimp only at r1
  have e1 := congrArg (·.1) r1
  have e2 := congrArg (·.2.1) r1
  have e3 := congrArg (·.2.2) r1
  dsimp only at e1 e2 e3
  have m1 := (moved_of hp 0).1
  have m2 := (moved_of hp' 0).1
  rw [e1, m1] at m2
  have i8 := of_all (of_all inj8 (i := q') (by omega)) (i := q) (by omega)
  have i4 := of_all (of_all inj4 (i := r') (by omega)) (i := r) (by omega)
  rw [e2] at i8
  rw [e3] at i4
  simp at i8 i4
  have : p = p' := by omega
  rw [this, i8, i4]
theorem same_all {n : Int × Int × Int} (h : Canon n) : (Float64.cmp (fl96 n.1) (fl96 n.1) == some Ordering.eq) = true ∧ (Float64.cmp (fl8 n.2.1) (fl8 n.2.1) == some Ordering.eq) = true ∧ (Float64.cmp (fl4 n.2.2) (fl4 n.2.2) == some Ordering.eq) = true := by
  obtain ⟨p, q, r, hp, hq, hr, rfl⟩ := canon_nat h
  have t := tab_self
  simp only [Bool.and_eq_true] at t
  exact ⟨of_all t.1.1 hp, of_all t.1.2 (i := q) (by omega), of_all t.2 (i := r) (by omega)⟩
end Mine
end PartF11

section PartP1
open PySem PySem.W PyProof.Rows PySem.Spec PySem.Calls
set_option maxRecDepth 1000000
set_option maxHeartbeats 4000000
namespace Mine
theorem canon_name (i : Int) {q r : Nat} (hq : q ≤ 8) (hr : r ≤ 4) : Canon (nameOf3 i q r) := by
  unfold nameOf3
  by_cases h : (q : Int) * (r : Int) = 0
  · rw [if_pos h]; exact .inl ⟨r, hr, rfl⟩
  · rw [if_neg h]
    have hq0 : q ≠ 0 := fun e => h (by rw [e]; simp)
    have hr0 : r ≠ 0 := fun e => h (by rw [e]; simp)
    have h0 := Int.fmod_nonneg_of_pos i (show (0 : Int) < 96 by decide)
    have h1 := Int.fmod_lt_of_pos i (show (0 : Int) < 96 by decide)
    exact .inr ⟨(i.fmod 96).toNat, q, r, by omega, by omega, by omega, by rw [Int.toNat_of_nonneg h0]⟩
/-- a name, moved on -/
def turnN (s : Int) (n : Int × Int × Int) : Int × Int × Int := nameOf3 (n.1 + s) n.2.1 n.2.2
theorem canon_turn {n : Int × Int × Int} (h : Canon n) (s : Int) : Canon (turnN s n) := by
  obtain ⟨p, q, r, hp, hq, hr, rfl⟩ := canon_nat h
  exact canon_name _ hq hr
theorem turn_name (s i : Int) (q r : Int) : turnN s (nameOf3 i q r) = nameOf3 (i + s) q r := by
  unfold turnN nameOf3
  by_cases h : q * r = 0
  · rw [if_pos h, if_pos h]; simp
  · rw [if_neg h, if_neg h]
    dsimp only
    rw [if_neg h]
    congr 1
    rw [Int.fmod_eq_emod_of_nonneg _ (by decide), Int.fmod_eq_emod_of_nonneg _ (by decide), Int.fmod_eq_emod_of_nonneg _ (by decide)]
    omega
open Classical in
/-- the name that a code tells -/
noncomputable def un (c : Int) : Int × Int × Int := if h : ∃ n, Canon n ∧ codeN n = c then h.choose else (0, 0, 0)
theorem un_code {n : Int × Int × Int} (h : Canon n) : un (codeN n) = n := by
  unfold un
  have hx : ∃ m, Canon m ∧ codeN m = codeN n := ⟨n, h, rfl⟩
  rw [dif_pos hx]
  exact codeN_inj hx.choose_spec.1 h hx.choose_spec.2
end Mine
end PartP1

section PartP2
open PySem PySem.W PyProof.Rows PySem.Spec PySem.Calls
set_option maxRecDepth 1000000
set_option maxHeartbeats 4000000
namespace Mine
/-- the palette in names -/
def apartN (xs ys : List (Int × Int × Int)) : List (Int × Int × Int) := xs.filter (fun k => !decide (k ∈ ys)) ++ ys.filter (fun k => !decide (k ∈ xs))
theorem mem_code {ys : List (Int × Int × Int)} (hy : ∀ n ∈ ys, Canon n) {n : Int × Int × Int} (hn : Canon n) : codeN n ∈ ys.map codeN ↔ n ∈ ys := by
  constructor
  · intro h
    obtain ⟨m, hm, e⟩ := List.mem_map.mp h
    rw [← codeN_inj (hy m hm) hn e]; exact hm
  · intro h
    exact List.mem_map.mpr ⟨n, h, rfl⟩
theorem filter_code {xs ys : List (Int × Int × Int)} (hx : ∀ n ∈ xs, Canon n) (hy : ∀ n ∈ ys, Canon n) : (xs.map codeN).filter (fun k => !decide (k ∈ ys.map codeN)) = (xs.filter (fun k => !decide (k ∈ ys))).map codeN := by
  induction xs with
  | nil => rfl
  | cons x xs ih =>
    have hc := mem_code hy (hx x (.head _))
    rw [List.map_cons, List.filter_cons, List.filter_cons, ih fun n h => hx n (.tail _ h)]
    by_cases h : x ∈ ys
    · rw [if_neg (by simp [hc.mpr h]), if_neg (by simp [h])]
    · rw [if_pos (by simp only [decide_eq_false (fun q => h (hc.mp q))]; rfl), if_pos (by simp [h]), List.map_cons]
theorem apart_code {xs ys : List (Int × Int × Int)} (hx : ∀ n ∈ xs, Canon n) (hy : ∀ n ∈ ys, Canon n) : apart (xs.map codeN) (ys.map codeN) = (apartN xs ys).map codeN := by
  unfold apart apartN
  rw [filter_code hx hy, filter_code hy hx, List.map_append]
end Mine
end PartP2

section PartP3
open PySem PySem.W PyProof.Rows PySem.Spec PySem.Calls
set_option maxRecDepth 1000000
set_option maxHeartbeats 4000000
namespace Mine
theorem name_fmod {i j : Int} (q r : Int) (h : i.fmod 96 = j.fmod 96) : nameOf3 i q r = nameOf3 j q r := by
  unfold nameOf3
  rw [h]
theorem canon_self {n : Int × Int × Int} (h : Canon n) : nameOf3 n.1 n.2.1 n.2.2 = n := by
  rcases h with ⟨k, hk, rfl⟩ | ⟨p, q, r, hp, hq, hr, rfl⟩
  · unfold nameOf3; simp
  · unfold nameOf3
    dsimp only
    rw [if_neg (Int.mul_ne_zero (by omega) (by omega)), Int.fmod_eq_emod_of_nonneg _ (by decide)]
    congr 1
    omega
theorem turn_turn (s t : Int) (n : Int × Int × Int) : turnN t (turnN s n) = turnN (s + t) n := by
  have h : turnN s n = nameOf3 (n.1 + s) n.2.1 n.2.2 := rfl
  rw [h, turn_name]
  show _ = nameOf3 (n.1 + (s + t)) n.2.1 n.2.2
  rw [Int.add_assoc]
theorem turn_zero {n : Int × Int × Int} (h : Canon n) {s : Int} (hs : s.fmod 96 = 0) : turnN s n = n := by
  have e : turnN s n = nameOf3 n.1 n.2.1 n.2.2 := name_fmod _ _ (by
    rw [Int.fmod_eq_emod_of_nonneg _ (by decide)] at hs ⊢
    rw [Int.fmod_eq_emod_of_nonneg _ (by decide)]
    omega)
  rw [e, canon_self h]
theorem turn_back {n : Int × Int × Int} (h : Canon n) (s : Int) : turnN (-s) (turnN s n) = n := by
  rw [turn_turn, turn_zero h (by rw [Int.add_right_neg]; rfl)]
theorem turn_forth {n : Int × Int × Int} (h : Canon n) (s : Int) : turnN s (turnN (-s) n) = n := by
  rw [turn_turn, turn_zero h (by rw [Int.add_left_neg]; rfl)]
theorem turn_half {n : Int × Int × Int} (h : Canon n) : turnN 48 (turnN 48 n) = n := by
  rw [turn_turn, turn_zero h (by decide)]
theorem turn_inj {n m : Int × Int × Int} (hn : Canon n) (hm : Canon m) {s : Int} (e : turnN s n = turnN s m) : n = m := by
  rw [← turn_back hn s, e, turn_back hm s]
end Mine
end PartP3

section PartP4
open PySem PySem.W PyProof.Rows PySem.Spec PySem.Calls
set_option maxRecDepth 1000000
set_option maxHeartbeats 4000000
namespace Mine
abbrev Nm := Int × Int × Int
theorem apartN_mem {xs ys : List Nm} {n : Nm} : decide (n ∈ apartN xs ys) = (decide (n ∈ xs) != decide (n ∈ ys)) := by
  unfold apartN
  rw [Bool.eq_iff_iff]
  simp only [decide_eq_true_eq, List.mem_append, List.mem_filter, Bool.not_eq_true', decide_eq_false_iff_not, bne_iff_ne, ne_eq, decide_eq_decide]
  by_cases h1 : n ∈ xs <;> by_cases h2 : n ∈ ys <;> simp [h1, h2]
theorem apartN_nodup {xs ys : List Nm} (hx : xs.Nodup) (hy : ys.Nodup) : (apartN xs ys).Nodup := by
  unfold apartN
  refine List.nodup_append.mpr ⟨hx.filter _, hy.filter _, ?_⟩
  intro a ha b hb e
  subst e
  have h1 := List.mem_filter.mp ha
  have h2 := List.mem_filter.mp hb
  simp [h1.1] at h2
theorem toggle_mem {xs : List Nm} {x n : Nm} : decide (n ∈ toggle xs x) = (decide (n ∈ xs) != decide (n = x)) := by
  unfold toggle
  rw [Bool.eq_iff_iff]
  simp only [decide_eq_true_eq, List.mem_append, List.mem_filter, List.mem_replicate, bne_iff_ne, ne_eq, decide_eq_decide]
  by_cases h : n = x
  · subst h
    have hc := List.count_pos_iff (a := n) (l := xs)
    by_cases h1 : n ∈ xs
    · have := hc.mpr h1
      first | (simp [h1]; done) | (simp [h1]; omega)
    · have : xs.count n = 0 := List.count_eq_zero.mpr h1
      simp [h1, this]
  · simp [h]
theorem toggle_nodup {xs : List Nm} {x : Nm} (hx : xs.Nodup) : (toggle xs x).Nodup := by
  unfold toggle
  refine List.nodup_append.mpr ⟨hx.filter _, ?_, ?_⟩
  · have : 1 - xs.count x ≤ 1 := Nat.sub_le _ _
    match h : 1 - xs.count x, this with
    | 0, _ => simp
    | 1, _ => simp
  · intro a ha b hb e
    subst e
    have h1 := List.mem_filter.mp ha
    rw [List.mem_replicate] at hb
    rw [hb.2] at h1
    simp at h1
end Mine
end PartP4

section PartP5
open PySem PySem.W PyProof.Rows PySem.Spec PySem.Calls
set_option maxRecDepth 1000000
set_option maxHeartbeats 4000000
namespace Mine
/-- the name of a drawn number -/
def nmX (x : Int) : Nm := nameOf3 (drawnP x) (drawnS x) (drawnV x)
theorem canon_nmX {x : Int} (h : 0 ≤ x ∧ x < 4320) : Canon (nmX x) := by
  have b0 : 0 ≤ (x.fdiv 96).fmod 9 ∧ (x.fdiv 96).fmod 9 < 9 := ⟨Int.fmod_nonneg_of_pos _ (by decide), Int.fmod_lt_of_pos _ (by decide)⟩
  have b3 : 0 ≤ 4 - x.fdiv 864 ∧ 4 - x.fdiv 864 ≤ 4 := by rw [Int.fdiv_eq_ediv_of_nonneg _ (by decide)]; omega
  have e1 : drawnS x = (((drawnS x).toNat : Nat) : Int) := by unfold drawnS; omega
  have e2 : drawnV x = (((drawnV x).toNat : Nat) : Int) := by unfold drawnV; omega
  unfold nmX
  rw [e1, e2]
  exact canon_name _ (by unfold drawnS; omega) (by unfold drawnV; omega)
/-- the palette's names after i turns -/
def palN (row : List Int) (s : Int) : Nat → List Nm
  | 0 => []
  | i + 1 => apartN (apartN (palN row s i) ((palN row s i).map (turnN s))) [nmX (row.getD i 0)]
theorem apartN_canon {xs ys : List Nm} (hx : ∀ n ∈ xs, Canon n) (hy : ∀ n ∈ ys, Canon n) : ∀ n ∈ apartN xs ys, Canon n := by
  intro n hn
  unfold apartN at hn
  rcases List.mem_append.mp hn with h | h
  · exact hx n (List.mem_filter.mp h).1
  · exact hy n (List.mem_filter.mp h).1
theorem map_canon {xs : List Nm} (hx : ∀ n ∈ xs, Canon n) (s : Int) : ∀ n ∈ xs.map (turnN s), Canon n := by
  intro n hn
  obtain ⟨m, hm, rfl⟩ := List.mem_map.mp hn
  exact canon_turn (hx m hm) s
theorem palN_canon {row : List Int} (hr : ∀ x ∈ row, 0 ≤ x ∧ x < 4320) (s : Int) : ∀ i, i ≤ row.length → ∀ n ∈ palN row s i, Canon n
  | 0, _, n, hn => by simp [palN] at hn
  | i + 1, hi, n, hn => by
    have ih := palN_canon hr s i (by omega)
    refine apartN_canon (apartN_canon ih (map_canon ih s)) ?_ n hn
    intro m hm
    rw [List.mem_singleton.mp hm]
    refine canon_nmX (hr _ ?_)
    rw [List.getD_eq_getElem?_getD, List.getElem?_eq_getElem (by omega), Option.getD_some]
    exact List.getElem_mem _
end Mine
end PartP5

section PartP6
open PySem PySem.W PyProof.Rows PySem.Spec PySem.Calls
set_option maxRecDepth 1000000
set_option maxHeartbeats 4000000
namespace Mine
theorem map_nodup {xs : List Nm} (hx : ∀ n ∈ xs, Canon n) (hd : xs.Nodup) (s : Int) : (xs.map (turnN s)).Nodup := by
  induction xs with
  | nil => exact List.nodup_nil
  | cons x xs ih =>
    have h := List.nodup_cons.mp hd
    rw [List.map_cons]
    refine List.nodup_cons.mpr ⟨fun hm => ?_, ih (fun n h => hx n (.tail _ h)) h.2⟩
    obtain ⟨y, hy, e⟩ := List.mem_map.mp hm
    rw [turn_inj (hx y (.tail _ hy)) (hx x (.head _)) e] at hy
    exact h.1 hy
theorem palN_nodup {row : List Int} (hr : ∀ x ∈ row, 0 ≤ x ∧ x < 4320) (s : Int) : ∀ i, i ≤ row.length → (palN row s i).Nodup
  | 0, _ => List.nodup_nil
  | i + 1, hi => by
    have ih := palN_nodup hr s i (by omega)
    have hc := palN_canon hr s i (by omega)
    exact apartN_nodup (apartN_nodup ih (map_nodup hc ih s)) (by simp)
theorem map_mem {xs : List Nm} (hx : ∀ n ∈ xs, Canon n) {n : Nm} (hn : Canon n) (s : Int) : n ∈ xs.map (turnN s) ↔ turnN (-s) n ∈ xs := by
  constructor
  · intro h
    obtain ⟨m, hm, rfl⟩ := List.mem_map.mp h
    rw [turn_back (hx m hm)]; exact hm
  · intro h
    exact List.mem_map.mpr ⟨_, h, turn_forth hn s⟩
/-- in the palette: a parity -/
theorem palN_step {row : List Int} (hr : ∀ x ∈ row, 0 ≤ x ∧ x < 4320) (s : Int) {i : Nat} (hi : i < row.length) {n : Nm} (hn : Canon n) :
    decide (n ∈ palN row s (i + 1)) = ((decide (n ∈ palN row s i) != decide (turnN (-s) n ∈ palN row s i)) != decide (n = nmX (row.getD i 0))) := by
  have hc := palN_canon hr s i (by omega)
  show decide (n ∈ apartN _ _) = _
  rw [apartN_mem, apartN_mem, decide_eq_decide.mpr (map_mem hc hn s), decide_eq_decide.mpr (List.mem_singleton (a := n))]
end Mine
end PartP6

section PartP7
open PySem PySem.W PyProof.Rows PySem.Spec PySem.Calls
set_option maxRecDepth 1000000
set_option maxHeartbeats 4000000
namespace Mine
noncomputable def fOf (s c : Int) : Int := codeN (turnN s (un c))
noncomputable def eOf (x : Int) : Int := codeN (nmX x)
def GdC (c : Int) : Prop := ∃ n, Canon n ∧ c = codeN n
theorem map_fOf {xs : List Nm} (hx : ∀ n ∈ xs, Canon n) (s : Int) : (xs.map codeN).map (fOf s) = (xs.map (turnN s)).map codeN := by
  rw [List.map_map, List.map_map]
  refine List.map_congr_left fun n hn => ?_
  show codeN (turnN s (un (codeN n))) = codeN (turnN s n)
  rw [un_code (hx n hn)]
theorem palAt_code {row : List Int} (hr : ∀ x ∈ row, 0 ≤ x ∧ x < 4320) (s : Int) : ∀ i, i ≤ row.length → palAt (fOf s) eOf row i = (palN row s i).map codeN
  | 0, _ => rfl
  | i + 1, hi => by
    have ih := palAt_code hr s i (by omega)
    have hc := palN_canon hr s i (by omega)
    have hx : Canon (nmX (row.getD i 0)) := canon_nmX (hr _ (by
      rw [List.getD_eq_getElem?_getD, List.getElem?_eq_getElem (by omega), Option.getD_some]
      exact List.getElem_mem _))
    rw [palAt_succ, ih]
    unfold stepPal
    rw [map_fOf hc, apart_code hc (map_canon hc s)]
    have h1 : ∀ n ∈ [nmX (row.getD i 0)], Canon n := fun n hn => by rw [List.mem_singleton.mp hn]; exact hx
    exact apart_code (ys := [nmX (row.getD i 0)]) (apartN_canon hc (map_canon hc s)) h1
end Mine
end PartP7

section PartP8
open PySem PySem.W PyProof.Rows PySem.Spec PySem.Calls
set_option maxRecDepth 1000000
set_option maxHeartbeats 4000000
namespace Mine
theorem due_name (x s : Int) (i : Nat) : nameOf3 (drawnP x + (i : Int) * s) (drawnS x) (drawnV x) = turnN ((i : Int) * s) (nmX x) := (turn_name _ _ _ _).symm
theorem fold_nodup (p q r s : Int) (m : Nat) : ∀ (l : List Nat) (xs : List Nm), xs.Nodup → (l.foldl (stepDue p q r s m) xs).Nodup
  | [], xs, h => h
  | i :: l, xs, h => by
    rw [List.foldl_cons]
    refine fold_nodup p q r s m l _ ?_
    unfold stepDue
    split
    · exact toggle_nodup h
    · exact h
theorem namesAt_nodup (row : List Int) (s : Int) : ∀ i, (namesAt row s i).Nodup
  | 0 => List.nodup_nil
  | i + 1 => by
    rw [namesAt_succ]
    exact fold_nodup _ _ _ _ _ _ _ (namesAt_nodup row s i)
end Mine
end PartP8

section PartP9
open PySem PySem.W PyProof.Rows PySem.Spec PySem.Calls
set_option maxRecDepth 1000000
set_option maxHeartbeats 4000000
namespace Mine
/-- whether the j-th name of a drawn number, with m turns to come, is due -/
def odd2 (m j : Nat) : Bool := decide (Builtin.bitAnd (j : Int) ((m : Int) - j) = 0)
theorem fold_mem (x s : Int) (m : Nat) (n : Nm) : ∀ (l : List Nat) (xs : List Nm),
    decide (n ∈ l.foldl (stepDue (drawnP x) (drawnS x) (drawnV x) s m) xs) = l.foldl (fun b j => b != (odd2 m j && decide (n = turnN ((j : Int) * s) (nmX x)))) (decide (n ∈ xs))
  | [], xs => rfl
  | j :: l, xs => by
    rw [List.foldl_cons, List.foldl_cons, fold_mem x s m n l]
    congr 1
    unfold stepDue odd2
    by_cases h : Builtin.bitAnd (j : Int) ((m : Int) - j) = 0
    · rw [if_pos h, toggle_mem, due_name]; simp [h]
    · rw [if_neg h]; simp [h]
end Mine
end PartP9

section PartP10
open PySem PySem.W PyProof.Rows PySem.Spec PySem.Calls
set_option maxRecDepth 1000000
namespace Mine
theorem pascal2 : ((List.range 7).all fun m => (List.range (m + 1)).all fun j => odd2 (m + 1) (j + 1) == (odd2 m (j + 1) != odd2 m j)) = true := by decide +kernel
theorem pascal0 : ((List.range 8).all fun m => odd2 m 0 && !odd2 m (m + 1)) = true := by decide +kernel
end Mine
end PartP10

section PartP11
open PySem PySem.W PyProof.Rows PySem.Spec PySem.Calls
set_option maxRecDepth 1000000
set_option maxHeartbeats 4000000
namespace Mine
/-- the parity of the first k values -/
def parB (g : Nat → Bool) : Nat → Bool
  | 0 => false
  | k + 1 => parB g k != g k
theorem parB_xor (a b : Nat → Bool) : ∀ k, parB (fun j => a j != b j) k = (parB a k != parB b k)
  | 0 => rfl
  | k + 1 => by
    show (parB (fun j => a j != b j) k != (a k != b k)) = ((parB a k != a k) != (parB b k != b k))
    rw [parB_xor a b k]
    cases parB a k <;> cases parB b k <;> cases a k <;> cases b k <;> rfl
theorem parB_congr {a b : Nat → Bool} : ∀ k, (∀ j, j < k → a j = b j) → parB a k = parB b k
  | 0, _ => rfl
  | k + 1, h => by
    show (parB a k != a k) = (parB b k != b k)
    rw [parB_congr k fun j hj => h j (by omega), h k (by omega)]
theorem parB_first (g : Nat → Bool) : ∀ k, parB g (k + 1) = (g 0 != parB (fun j => g (j + 1)) k)
  | 0 => by show (false != g 0) = (g 0 != false); cases g 0 <;> rfl
  | k + 1 => by
    show (parB g (k + 1) != g (k + 1)) = (g 0 != (parB (fun j => g (j + 1)) k != g (k + 1)))
    rw [parB_first g k]
    cases g 0 <;> cases parB (fun j => g (j + 1)) k <;> cases g (k + 1) <;> rfl
theorem fold_parB (g : Nat → Bool) (b : Bool) : ∀ k, (List.range k).foldl (fun b j => b != g j) b = (b != parB g k)
  | 0 => by show b = (b != false); cases b <;> rfl
  | k + 1 => by
    rw [List.range_succ, List.foldl_append, List.foldl_cons, List.foldl_nil, fold_parB g b k]
    show ((b != parB g k) != g k) = (b != (parB g k != g k))
    cases b <;> cases parB g k <;> cases g k <;> rfl
/-- whether n is due for the colour y, with m turns to come -/
def due (s : Int) (y : Nm) (m : Nat) (n : Nm) : Bool := parB (fun j => odd2 m j && decide (n = turnN ((j : Int) * s) y)) (m + 1)
theorem due_zero (s : Int) {y n : Nm} (hy : Canon y) : due s y 0 n = decide (n = y) := by
  have h := of_all pascal0 (i := 0) (by decide)
  simp only [Bool.and_eq_true] at h
  show (false != (odd2 0 0 && decide (n = turnN (((0 : Nat) : Int) * s) y))) = _
  rw [h.1, turn_zero hy (by simp)]
  cases decide (n = y) <;> rfl
theorem due_succ (s : Int) {y n : Nm} (hy : Canon y) (hn : Canon n) {m : Nat} (hm : m < 7) : due s y (m + 1) n = (due s y m n != due s y m (turnN (-s) n)) := by
  have h1 := of_all pascal0 (i := m) (by omega)
  have h2 := of_all pascal0 (i := m + 1) (by omega)
  simp only [Bool.and_eq_true, Bool.not_eq_true'] at h1 h2
  have ee : ∀ j : Nat, decide (n = turnN (((j + 1 : Nat) : Int) * s) y) = decide (turnN (-s) n = turnN ((j : Int) * s) y) := fun j => by
    rw [decide_eq_decide]
    have e : turnN (((j + 1 : Nat) : Int) * s) y = turnN s (turnN ((j : Int) * s) y) := by
      rw [turn_turn]; congr 1; rw [Int.natCast_add, Int.add_mul]; simp
    rw [e]
    constructor
    · intro q; rw [q, turn_back (canon_turn hy _)]
    · intro q; rw [← q, turn_forth hn]
  have a1 : due s y (m + 1) n = ((odd2 m 0 && decide (n = turnN (((0 : Nat) : Int) * s) y)) != parB (fun j => (odd2 m (j + 1) && decide (n = turnN (((j + 1 : Nat) : Int) * s) y)) != (odd2 m j && decide (turnN (-s) n = turnN ((j : Int) * s) y))) (m + 1)) := by
    unfold due
    rw [parB_first]
    rw [h2.1, h1.1]
    congr 1
    refine parB_congr _ fun j hj => ?_
    have p := of_all (of_all pascal2 (i := m) hm) (i := j) hj
    simp only [beq_iff_eq] at p
    rw [p, ← ee j]
    cases odd2 m (j + 1) <;> cases odd2 m j <;> cases decide (n = turnN (((j + 1 : Nat) : Int) * s) y) <;> rfl
  have a2 : due s y m n = ((odd2 m 0 && decide (n = turnN (((0 : Nat) : Int) * s) y)) != parB (fun j => odd2 m (j + 1) && decide (n = turnN (((j + 1 : Nat) : Int) * s) y)) (m + 1)) := by
    have b := parB_first (fun j => odd2 m j && decide (n = turnN ((j : Int) * s) y)) (m + 1)
    rw [← b]
    show _ = (parB _ (m + 1) != (odd2 m (m + 1) && _))
    rw [h1.2]
    show due s y m n = (due s y m n != false)
    cases due s y m n <;> rfl
  rw [a1, a2, parB_xor]
  show _ = (_ != parB _ (m + 1))
  generalize (odd2 m 0 && decide (n = turnN (((0 : Nat) : Int) * s) y)) = u1
  generalize parB (fun j => odd2 m (j + 1) && decide (n = turnN (((j + 1 : Nat) : Int) * s) y)) (m + 1) = u2
  generalize parB (fun j => odd2 m j && decide (turnN (-s) n = turnN ((j : Int) * s) y)) (m + 1) = u3
  cases u1 <;> cases u2 <;> cases u3 <;> rfl
end Mine
end PartP11

section PartP12
open PySem PySem.W PyProof.Rows PySem.Spec PySem.Calls
set_option maxRecDepth 1000000
set_option maxHeartbeats 4000000
namespace Mine
theorem getD_mem {row : List Int} {i : Nat} (hi : i < row.length) : row.getD i 0 ∈ row := by
  rw [List.getD_eq_getElem?_getD, List.getElem?_eq_getElem hi, Option.getD_some]
  exact List.getElem_mem _
theorem palN_due {row : List Int} (hr : ∀ x ∈ row, 0 ≤ x ∧ x < 4320) (hl : row.length ≤ 8) (s : Int) : ∀ i, i ≤ row.length → ∀ n, Canon n →
    decide (n ∈ palN row s i) = parB (fun k => due s (nmX (row.getD k 0)) (i - 1 - k) n) i
  | 0, _, n, _ => by simp [palN, parB]
  | i + 1, hi, n, hn => by
    have ih := palN_due hr hl s i (by omega)
    rw [palN_step hr s (by omega) hn, ih n hn, ih _ (canon_turn hn _), ← parB_xor]
    show _ = (parB _ i != due s (nmX (row.getD i 0)) (i + 1 - 1 - i) n)
    rw [show i + 1 - 1 - i = 0 by omega, due_zero s (canon_nmX (hr _ (getD_mem (by omega))))]
    congr 1
    refine parB_congr _ fun k hk => ?_
    rw [show i + 1 - 1 - k = (i - 1 - k) + 1 by omega, due_succ s (canon_nmX (hr _ (getD_mem (by omega)))) hn (by omega)]
theorem namesAt_due (row : List Int) (s : Int) (n : Nm) : ∀ i, decide (n ∈ namesAt row s i) = parB (fun k => due s (nmX (row.getD k 0)) (row.length - 1 - k) n) i
  | 0 => by simp [namesAt, parB]
  | i + 1 => by
    rw [namesAt_succ]
    unfold stepNames
    rw [fold_mem, fold_parB (fun j => odd2 (row.length - 1 - i) j && decide (n = turnN ((j : Int) * s) (nmX (row.getD i 0)))), namesAt_due row s n i]
    rfl
theorem fold_canon {x s : Int} (hx : Canon (nmX x)) (m : Nat) : ∀ (l : List Nat) (xs : List Nm), (∀ n ∈ xs, Canon n) → ∀ n ∈ l.foldl (stepDue (drawnP x) (drawnS x) (drawnV x) s m) xs, Canon n
  | [], xs, h => h
  | j :: l, xs, h => by
    rw [List.foldl_cons]
    refine fold_canon hx m l _ ?_
    unfold stepDue
    split
    · intro n hn
      have t := toggle_mem (xs := xs) (x := nameOf3 (drawnP x + (j : Int) * s) (drawnS x) (drawnV x)) (n := n)
      rw [due_name] at t hn
      rw [decide_eq_true hn] at t
      by_cases h1 : n ∈ xs
      · exact h n h1
      · by_cases h2 : n = turnN ((j : Int) * s) (nmX x)
        · rw [h2]; exact canon_turn hx _
        · simp [h1, h2] at t
    · exact h
theorem namesAt_canon {row : List Int} (hr : ∀ x ∈ row, 0 ≤ x ∧ x < 4320) (s : Int) : ∀ i, i ≤ row.length → ∀ n ∈ namesAt row s i, Canon n
  | 0, _, n, hn => by simp [namesAt] at hn
  | i + 1, hi, n, hn => by
    rw [namesAt_succ] at hn
    exact fold_canon (canon_nmX (hr _ (getD_mem (by omega)))) _ _ _ (namesAt_canon hr s i (by omega)) n hn
theorem pal_perm {row : List Int} (hr : ∀ x ∈ row, 0 ≤ x ∧ x < 4320) (hl : row.length ≤ 8) (s : Int) : (palN row s row.length).Perm (namesAt row s row.length) := by
  refine (List.perm_ext_iff_of_nodup (palN_nodup hr s _ (Nat.le_refl _)) (namesAt_nodup row s _)).mpr fun n => ?_
  by_cases hn : Canon n
  · rw [← decide_eq_decide, palN_due hr hl s _ (Nat.le_refl _) n hn, namesAt_due]
  · exact ⟨fun h => absurd (palN_canon hr s _ (Nat.le_refl _) n h) hn, fun h => absurd (namesAt_canon hr s _ (Nat.le_refl _) n h) hn⟩
theorem names_few {row : List Int} (hl : row.length ≤ 8) (s : Int) : ∀ i, i ≤ row.length → (namesAt row s i).length ≤ i * row.length - (i * (i - 1)) / 2
  | 0, _ => by simp [namesAt]
  | i + 1, hi => by
    have h := names_few hl s i (by omega)
    have h2 := stepDue_len (drawnP (row.getD i 0)) (drawnS (row.getD i 0)) (drawnV (row.getD i 0)) s (row.length - 1 - i) (List.range (row.length - 1 - i + 1)) (namesAt row s i)
    rw [List.length_range] at h2
    rw [namesAt_succ]
    unfold stepNames
    refine Nat.le_trans h2 (Nat.le_trans (Nat.add_le_add_right h _) ?_)
    generalize row.length = N at hl hi
    have hb : ((List.range 9).all fun N => (List.range N).all fun i => decide (i * N - (i * (i - 1)) / 2 + (N - 1 - i + 1) ≤ (i + 1) * N - ((i + 1) * (i + 1 - 1)) / 2)) = true := by decide +kernel
    have := of_all (of_all hb (i := N) (by omega)) (i := i) (by omega)
    exact of_decide_eq_true this
theorem names_lt {row : List Int} (hl : row.length ≤ 8) (s : Int) : (namesAt row s row.length).length < 64 := by
  refine Nat.lt_of_le_of_lt (names_few hl s _ (Nat.le_refl _)) ?_
  generalize row.length = N at hl
  have hb : ((List.range 9).all fun N => decide (N * N - (N * (N - 1)) / 2 < 64)) = true := by decide +kernel
  exact of_decide_eq_true (of_all hb (i := N) (by omega))
end Mine
end PartP12

section PartP13
open PySem PySem.W PyProof.Rows PySem.Spec PySem.Calls
set_option maxRecDepth 1000000
set_option maxHeartbeats 4000000
namespace Mine
theorem code_nodup : ∀ {xs : List Nm}, (∀ n ∈ xs, Canon n) → xs.Nodup → (xs.map codeN).Nodup
  | [], _, _ => List.nodup_nil
  | x :: xs, hx, hd => by
    have h := List.nodup_cons.mp hd
    rw [List.map_cons]
    refine List.nodup_cons.mpr ⟨fun hm => ?_, code_nodup (fun n h => hx n (.tail _ h)) h.2⟩
    exact h.1 ((mem_code (fun n h => hx n (.tail _ h)) (hx x (.head _))).mp hm)
theorem drawn_eOf {x : Int} (h : 0 ≤ x ∧ x < 4320) : DrawnOk (drawnP x) (drawnS x) (drawnV x) (eOf x) := by
  have b0 : 0 ≤ (x.fdiv 96).fmod 9 ∧ (x.fdiv 96).fmod 9 < 9 := ⟨Int.fmod_nonneg_of_pos _ (by decide), Int.fmod_lt_of_pos _ (by decide)⟩
  have b1 : 0 ≤ x.fmod 96 ∧ x.fmod 96 < 96 := ⟨Int.fmod_nonneg_of_pos _ (by decide), Int.fmod_lt_of_pos _ (by decide)⟩
  have b3 : 0 ≤ 4 - x.fdiv 864 ∧ 4 - x.fdiv 864 ≤ 4 := by rw [Int.fdiv_eq_ediv_of_nonneg _ (by decide)]; omega
  have e0 : drawnP x = (((drawnP x).toNat : Nat) : Int) := by unfold drawnP; omega
  have e1 : drawnS x = (((drawnS x).toNat : Nat) : Int) := by unfold drawnS; omega
  have e2 : drawnV x = (((drawnV x).toNat : Nat) : Int) := by unfold drawnV; omega
  have d := drawn_ok (p := (drawnP x).toNat) (q := (drawnS x).toNat) (r := (drawnV x).toNat) (by unfold drawnP; omega) (by unfold drawnS; omega) (by unfold drawnV; omega)
  rw [← e0, ← e1, ← e2] at d
  exact d
theorem turn_fOf {c : Int} (h : GdC c) {s : Nat} (hs : s ≤ 96) : TurnOk c (s : Int) (fOf (s : Int) c) := by
  obtain ⟨n, hn, rfl⟩ := h
  unfold fOf
  rw [un_code hn]
  exact turn_ok hn hs
theorem good_fOf {c : Int} (h : GdC c) (s : Int) : GdC (fOf s c) := by
  obtain ⟨n, hn, rfl⟩ := h
  unfold fOf
  rw [un_code hn]
  exact ⟨_, canon_turn hn _, rfl⟩
theorem turn_48 {n : Nm} (h : Canon n) : turnN (-48) n = turnN 48 n := by
  have e : turnN (-48) (turnN 48 (turnN 48 n)) = turnN 48 n := by rw [turn_turn, turn_zero (canon_turn h _) (by decide)]
  rw [turn_half h] at e
  exact e
theorem tail_ok {row : List Int} (hr : ∀ x ∈ row, 0 ≤ x ∧ x < 4320) (hl : row.length ≤ 8) (s : Int) : TailOk (palAt (fOf s) eOf row row.length) (namesAt row s row.length) (fOf 48) := by
  have hp := pal_perm hr hl s
  have hc := palN_canon hr s row.length (Nat.le_refl _)
  have hn := namesAt_canon hr s row.length (Nat.le_refl _)
  rw [palAt_code hr s row.length (Nat.le_refl _)]
  refine ⟨fun n h => ?_, code_nodup hn (namesAt_nodup row s _), hp.map _, names_lt hl s, fun n h => (read_all (hn n h)).1, fun n h => (read_all (hn n h)).2.1, fun n h => (read_all (hn n h)).2.2, fun n h => same_all (hn n h), fun c h => ?_, fun n h => ?_⟩
  · obtain ⟨p, q, r, h1, h2, h3, rfl⟩ := canon_nat (hn n h)
    dsimp only
    omega
  · obtain ⟨m, hm, rfl⟩ := List.mem_map.mp h
    exact turn_fOf (s := 48) ⟨m, hc m hm, rfl⟩ (by decide)
  · have hcn := hn n h
    rw [map_fOf hc, mem_code (map_canon hc _) hcn, map_mem hc hcn, turn_48 hcn, hp.mem_iff]
    exact Iff.rfl
theorem plain : Plain := fun row hr hl => ⟨fOf (row.sum.fmod 96), eOf, fOf 48, GdC, fun c hc => by
    have h0 := Int.fmod_nonneg_of_pos row.sum (show (0 : Int) < 96 by decide)
    have h1 := Int.fmod_lt_of_pos row.sum (show (0 : Int) < 96 by decide)
    have e : row.sum.fmod 96 = (((row.sum.fmod 96).toNat : Nat) : Int) := by omega
    refine ⟨?_, good_fOf hc _⟩
    rw [e]
    exact turn_fOf hc (by omega), fun x hx => ⟨drawn_eOf (hr x hx), _, canon_nmX (hr x hx), rfl⟩, tail_ok hr hl _⟩
theorem done : PySem.Challenge.rw_ij0006_01.Holds := law_holds plain
end Mine
end PartP13

theorem PySem.Challenge.cw_ij0006_01_holds : PySem.Challenge.rw_ij0006_01.Holds := by
  exact Mine.done
