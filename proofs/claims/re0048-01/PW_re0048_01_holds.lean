import PyProof.Rows.All
import Wide.All
import OpenK.AllK
import Wide.FinOn
import PySem.Challenge.RW_re0048_01
set_option Elab.async false

section
open PySem PySem.W PyProof.Rows
namespace Mine
set_option maxRecDepth 100000 in
set_option maxHeartbeats 8000000 in
open_top hd for PySem.Challenge.rw_re0048_01
end Mine

end

section
open PySem PySem.W PyProof.Rows PySem.Calls
namespace Mine
/-- a call of the def at f with the arguments vs, from any frame, given what comes back -/
abbrev Ctr (w : World) (p : Program) (loose : List Str) (mean : ExcName → Option Value) (mg mb : Str → Option Value) (k : Nat) (f : Addr) (vs : List Value) (news : List (Addr × Obj))
    (Ret : Heap → Addr → (Str → Option Value) → Shared → (Value → Shared → Prop) → Prop) : Prop :=
  ∀ (dp un : Nat) (gd : Option (List Code)) (cn : Str) (cs : Scope) (a : Addr) (ccd : Value) (cl : List (Str × Addr)) (outer : List Env) (A₀ : Around) (base h₀ : Heap) (L : Addr) (m : Str → Option Value) (s : Shared) (Q E : Value → Shared → Prop),
    Below A₀ base outer h₀ → Fr h₀ L s.heap m → (hd.heap_39 w.params).In h₀ → News h₀ L s.heap news → Top p loose mean mg mb h₀ → cs.kind = .function →
    dp + k < recursionLimit → un + 20 * k < cLine → Ret h₀ L m s Q →
      wpAny (model PySem.Challenge.rw_re0048_01.row.prog w) (ktrTop dp un gd cn cs L a ccd cl outer) (call (.ref f) vs) Q E s
/-- what comes back: a plain value, nothing made is kept -/
abbrev RetV (news : List (Addr × Obj)) (R : Tok → Value) (h₀ : Heap) (L : Addr) (m : Str → Option Value) (s : Shared) (Q : Value → Shared → Prop) : Prop :=
  ∀ (t : Tok) (h' : Heap) (tk' : Nat), Fr h₀ L h' m → News h₀ L h' news → Q (R t) { s with heap := h', toks := tk' }
abbrev tupO (vs : List Value) : Obj := { cls := .type "tuple", data := .seq vs.toArray }
/-- what comes back: a new tuple of three floats -/
abbrev RetT (news : List (Addr × Obj)) (x y z : UInt64) (h₀ : Heap) (L : Addr) (m : Str → Option Value) (s : Shared) (Q : Value → Shared → Prop) : Prop :=
  ∀ (a : Addr) (t1 t2 t3 : Tok) (h' : Heap) (tk' : Nat), Fr h₀ L h' m → News h₀ L h' ((a, tupO [.float x t1, .float y t2, .float z t3]) :: news) → (∀ q ∈ news, q.1 < a) → Q (.ref a) { s with heap := h', toks := tk' }
end Mine

end

section
open PySem PySem.W PyProof.Rows PySem.Calls
namespace Mine
set_option maxRecDepth 100000
set_option maxHeartbeats 8000000

def vF (m1 m2 hue : UInt64) : UInt64 :=
  let u := (Float64.divmod hue 4607182418800017408).snd
  if (Float64.cmp u 4595172819793696085 == some Ordering.lt) = true then Float64.add m1 (Float64.mul (Float64.mul (Float64.sub m2 m1) u) 4618441417868443648)
  else if (Float64.cmp u 4602678819172646912 == some Ordering.lt) = true then m2
  else if (Float64.cmp u 4604180019048437077 == some Ordering.lt) = true then Float64.add m1 (Float64.mul (Float64.mul (Float64.sub m2 m1) (Float64.sub 4604180019048437077 u)) 4618441417868443648)
  else m1

theorem v_call : ∀ (w : World) (p : Program) (loose : List Str) (mean : ExcName → Option Value) (mg mb : Str → Option Value) (news : List (Addr × Obj)) (m1 m2 hue : UInt64) (t1 t2 t3 : Tok),
    Ctr w p loose mean mg mb 1 35 [.float m1 t1, .float m2 t2, .float hue t3] news (RetV news (fun t => .float (vF m1 m2 hue) t)) := by
  dsimp only [Ctr, RetV]
  k_fill
  w_top off
  intro w p loose mean mg mb news m1 m2 hue t1 t2 t3 dp un gd cn cs a ccd cl outer A₀ base h₀ L m s Q E B F X N T hk hd1 hu hret
  refine wpAny_call ?_
  k_dflt cell_enter
  k_steps
  all_goals (unfold vF at hret; simp only [*, if_true, if_false, Bool.false_eq_true] at hret; exact hret _ _ _ (by k_asm) (by k_asm))

end Mine

end

section
open PySem PySem.W PyProof.Rows PySem.Calls
namespace Mine
local macro_rules | `(tactic| walk_at "nothing 0") => `(tactic| skip)
local macro_rules | `(tactic| walk_at "nothing 1") => `(tactic| skip)
local macro_rules | `(tactic| walk_at "nothing 2") => `(tactic| skip)
local macro_rules | `(tactic| walk_at "nothing 3") => `(tactic| skip)
local macro_rules | `(tactic| walk_at "nothing 4") => `(tactic| skip)
local macro_rules | `(tactic| walk_at "nothing 5") => `(tactic| skip)
local macro_rules | `(tactic| walk_at "nothing 6") => `(tactic| skip)
set_option maxRecDepth 100000
set_option maxHeartbeats 8000000

local macro_rules | `(tactic| walk_at "call ref") => `(tactic| (k_here; (with_reducible show wpAny _ _ (call (Value.ref 35) [Value.float _ _, Value.float _ _, Value.float _ _]) _ _ _); k_dflt (refine' v_call _ _ _ _ _ _ _ _ _ _ _ _ _ _ _ _ _ _ _ _ _ _ _ _ _ _ _ _ _ _ ?k1 ?k2 ?k3 ?k4 ?k5 ?kK ?kd ?ku ?_; (case k1 => k_asm); (case k2 => k_asm); (case k3 => k_asm); (case k4 => k_asm); (case k5 => k_asm); (case kK => first | exact rfl | assumption); (case kd => ktr_room); (case ku => ktr_units); intro t9 h9 tk9 F9 N9; (try dsimp only); (try k_fold))))

def lampF (h l s : UInt64) : UInt64 × UInt64 × UInt64 :=
  if (Float64.cmp s 0 == some Ordering.eq) = true then (l, l, l)
  else
    let m2 := if (Float64.cmp l 4602678819172646912 == some Ordering.lt || Float64.cmp l 4602678819172646912 == some Ordering.eq) = true then Float64.mul l (Float64.add 4607182418800017408 s) else Float64.sub (Float64.add l s) (Float64.mul l s)
    let m1 := Float64.sub (Float64.mul 4611686018427387904 l) m2
    (vF m1 m2 (Float64.add h 4599676419421066581), vF m1 m2 h, vF m1 m2 (Float64.sub h 4599676419421066581))

theorem hls_call : ∀ (w : World) (p : Program) (loose : List Str) (mean : ExcName → Option Value) (mg mb : Str → Option Value) (news : List (Addr × Obj)) (h l s0 : UInt64) (t1 t2 t3 : Tok),
    Ctr w p loose mean mg mb 2 28 [.float h t1, .float l t2, .float s0 t3] news (RetT news (lampF h l s0).1 (lampF h l s0).2.1 (lampF h l s0).2.2) := by
  dsimp only [Ctr, RetT]
  k_fill
  w_top off
  intro w p loose mean mg mb news h l s0 t1 t2 t3 dp un gd cn cs a ccd cl outer A₀ base h₀ L m s Q E B F X N T hk hd1 hu hret
  refine wpAny_call ?_
  k_dflt cell_enter
  k_steps
  all_goals (unfold lampF at hret; simp only [*, if_true, if_false, Bool.false_eq_true] at hret; exact hret _ _ _ _ _ _ (by k_asm) (by k_asm) (by k_asm))

end Mine

end

section
open PySem PySem.W PyProof.Rows PySem.Calls PySem.Flt
namespace Mine

def max3F (x y z : UInt64) : UInt64 :=
  let m := if (Float64.cmp x y == some .lt) = true then y else x
  if (Float64.cmp m z == some .lt) = true then z else m
def min3F (x y z : UInt64) : UInt64 :=
  let m := if (Float64.cmp y x == some .lt) = true then y else x
  if (Float64.cmp z m == some .lt) = true then z else m

section
variable {prog : Program} {w : World} {A : Around} {E : Value → Shared → Prop} {s : Shared} {Q : Value → Shared → Prop} {h₀ : Heap} {L : Addr} {m : Str → Option Value} {news : List (Addr × Obj)} {x y z : UInt64} {t u v : Tok}

theorem max3_f (hh : A.handled = none) (F : Fr h₀ L s.heap m) (N : News h₀ L s.heap news)
    (h : ∀ h' tk t', Fr h₀ L h' m → News h₀ L h' news → Q (.float (max3F x y z) t') { s with heap := h', toks := tk }) :
    wpAny (model prog w) A (call (.builtin "max") [.float x t, .float y u, .float z v]) Q E s := by
  have hT : (s.heap.push { cls := .type "tuple", data := .seq #[.float x t, .float y u, .float z v] }).IsTuple s.heap.objs.size #[.float x t, .float y u, .float z v] := ⟨_, Heap.get?_push_size _ rfl, rfl, 0, rfl⟩
  refine call_max_three (wpAny_pyIter_tuple hT ?_)
  have hsz : (s.heap.push { cls := .type "tuple", data := .seq #[.float x t, .float y u, .float z v] }).objs.size = s.heap.objs.size + 1 := Heap.size_push ..
  refine ⟨_, [_, s.heap.objs.size], [_], _, _, _, _, rfl, Walks.tuple (A := A.in1) hh _ s.heap.objs.size (by rw [hsz]; exact Nat.ne_of_lt (Nat.lt_succ_self _)) #[.float x t, .float y u, .float z v],
    ⟨⟨_, Heap.get?_push_size _ rfl, rfl, rfl⟩, hT.push _⟩, fun c hc => ?_, by simp, cmpOf_gt #[.float x t, .float y u, .float z v] (by intro a ha; simp at ha; rcases ha with rfl | rfl | rfl <;> exact NumV.float _ _), fun r h' tk hP hk => ?_⟩
  · show c < ((s.heap.push _).push _).objs.size
    rw [Heap.size_push, hsz]
    rcases List.mem_cons.mp hc with rfl | hc
    · rw [hsz]; exact Nat.lt_succ_self _
    · rcases List.mem_cons.mp hc with rfl | hc
      · exact Nat.lt_succ_of_lt (Nat.lt_succ_self _)
      · cases hc
  · have hold : ∀ c o, s.heap.get? c = some o → h'.get? c = some o := fun c o e => by
      refine hk c o (fun hm => ?_) (Heap.get?_push_of_some _ (Heap.get?_push_of_some _ e))
      rcases List.mem_cons.mp hm with e1 | hm
      · have := Heap.lt_size e; rw [e1, hsz] at this; exact Nat.lt_irrefl _ (Nat.lt_of_succ_lt this)
      · cases hm
    have hv : ∃ t', r = .float (max3F x y z) t' := by
      cases h1 : (Float64.cmp x y == some .lt) <;> cases h2 : (Float64.cmp x z == some .lt) <;> cases h3 : (Float64.cmp y z == some .lt) <;>
        (simp [argBest, ltV, h1, h2, h3] at hP; subst hP; exact ⟨_, by simp [max3F, h1, h2, h3]; rfl⟩)
    obtain ⟨t', rfl⟩ := hv
    exact h h' tk t' (F.grownK hold) (N.grown hold)

theorem min3_f (hh : A.handled = none) (F : Fr h₀ L s.heap m) (N : News h₀ L s.heap news)
    (h : ∀ h' tk t', Fr h₀ L h' m → News h₀ L h' news → Q (.float (min3F x y z) t') { s with heap := h', toks := tk }) :
    wpAny (model prog w) A (call (.builtin "min") [.float x t, .float y u, .float z v]) Q E s := by
  have hT : (s.heap.push { cls := .type "tuple", data := .seq #[.float x t, .float y u, .float z v] }).IsTuple s.heap.objs.size #[.float x t, .float y u, .float z v] := ⟨_, Heap.get?_push_size _ rfl, rfl, 0, rfl⟩
  refine call_min_three (wpAny_pyIter_tuple hT ?_)
  have hsz : (s.heap.push { cls := .type "tuple", data := .seq #[.float x t, .float y u, .float z v] }).objs.size = s.heap.objs.size + 1 := Heap.size_push ..
  refine ⟨_, [_, s.heap.objs.size], [_], _, _, _, _, rfl, Walks.tuple (A := A.in1) hh _ s.heap.objs.size (by rw [hsz]; exact Nat.ne_of_lt (Nat.lt_succ_self _)) #[.float x t, .float y u, .float z v],
    ⟨⟨_, Heap.get?_push_size _ rfl, rfl, rfl⟩, hT.push _⟩, fun c hc => ?_, by simp, cmpOf_lt #[.float x t, .float y u, .float z v] (by intro a ha; simp at ha; rcases ha with rfl | rfl | rfl <;> exact NumV.float _ _), fun r h' tk hP hk => ?_⟩
  · show c < ((s.heap.push _).push _).objs.size
    rw [Heap.size_push, hsz]
    rcases List.mem_cons.mp hc with rfl | hc
    · rw [hsz]; exact Nat.lt_succ_self _
    · rcases List.mem_cons.mp hc with rfl | hc
      · exact Nat.lt_succ_of_lt (Nat.lt_succ_self _)
      · cases hc
  · have hold : ∀ c o, s.heap.get? c = some o → h'.get? c = some o := fun c o e => by
      refine hk c o (fun hm => ?_) (Heap.get?_push_of_some _ (Heap.get?_push_of_some _ e))
      rcases List.mem_cons.mp hm with e1 | hm
      · have := Heap.lt_size e; rw [e1, hsz] at this; exact Nat.lt_irrefl _ (Nat.lt_of_succ_lt this)
      · cases hm
    have hv : ∃ t', r = .float (min3F x y z) t' := by
      cases h1 : (Float64.cmp y x == some .lt) <;> cases h2 : (Float64.cmp z x == some .lt) <;> cases h3 : (Float64.cmp z y == some .lt) <;>
        (simp [argBest, ltV, h1, h2, h3] at hP; subst hP; exact ⟨_, by simp [min3F, h1, h2, h3]; rfl⟩)
    obtain ⟨t', rfl⟩ := hv
    exact h h' tk t' (F.grownK hold) (N.grown hold)
end
end Mine

end

section
open PySem PySem.W PyProof.Rows PySem.Calls
namespace Mine
local macro_rules | `(tactic| walk_at "nothing 0") => `(tactic| skip)
local macro_rules | `(tactic| walk_at "nothing 1") => `(tactic| skip)
local macro_rules | `(tactic| walk_at "nothing 2") => `(tactic| skip)
local macro_rules | `(tactic| walk_at "nothing 3") => `(tactic| skip)
local macro_rules | `(tactic| walk_at "nothing 4") => `(tactic| skip)
local macro_rules | `(tactic| walk_at "nothing 5") => `(tactic| skip)
local macro_rules | `(tactic| walk_at "nothing 6") => `(tactic| skip)
local macro_rules | `(tactic| walk_at "nothing 7") => `(tactic| skip)
local macro_rules | `(tactic| walk_at "nothing 8") => `(tactic| skip)
local macro_rules | `(tactic| walk_at "nothing 9") => `(tactic| skip)
local macro_rules | `(tactic| walk_at "nothing 10") => `(tactic| skip)
local macro_rules | `(tactic| walk_at "nothing 11") => `(tactic| skip)
local macro_rules | `(tactic| walk_at "nothing 12") => `(tactic| skip)
local macro_rules | `(tactic| walk_at "nothing 13") => `(tactic| skip)
set_option maxRecDepth 100000
set_option maxHeartbeats 8000000

local macro_rules | `(tactic| walk_at "call builtin:max") => `(tactic| (k_here; (with_reducible show wpAny _ _ (call (Value.builtin _) [Value.float _ _, Value.float _ _, Value.float _ _]) _ _ _); k_dflt (refine' max3_f ?k1 ?k2 ?k3 ?_; (case k1 => exact rfl); (case k2 => k_asm); (case k3 => k_asm); intro h' tk' t' F' N'; (try dsimp only); (try k_sweep))))
local macro_rules | `(tactic| walk_at "call builtin:min") => `(tactic| (k_here; (with_reducible show wpAny _ _ (call (Value.builtin _) [Value.float _ _, Value.float _ _, Value.float _ _]) _ _ _); k_dflt (refine' min3_f ?k1 ?k2 ?k3 ?_; (case k1 => exact rfl); (case k2 => k_asm); (case k3 => k_asm); intro h' tk' t' F' N'; (try dsimp only); (try k_sweep))))

def lF (r g b : UInt64) : Bool := let l := Float64.div (Float64.add (max3F r g b) (min3F r g b)) 4611686018427387904
  (Float64.cmp l 4602678819172646912 == some Ordering.lt || Float64.cmp l 4602678819172646912 == some Ordering.eq)
/-- no division by nought on the way -/
def okF (r g b : UInt64) : Bool :=
  (Float64.cmp (min3F r g b) (max3F r g b) == some Ordering.eq) ||
  (!(Float64.isZero (Float64.sub (max3F r g b) (min3F r g b))) && (if lF r g b = true then !(Float64.isZero (Float64.add (max3F r g b) (min3F r g b))) else !(Float64.isZero (Float64.sub (Float64.sub 4611686018427387904 (max3F r g b)) (min3F r g b)))))
def hueF (r g b : UInt64) : UInt64 :=
  if (Float64.cmp (min3F r g b) (max3F r g b) == some Ordering.eq) = true then 0 else
  let rc := Float64.div (Float64.sub (max3F r g b) r) (Float64.sub (max3F r g b) (min3F r g b))
  let gc := Float64.div (Float64.sub (max3F r g b) g) (Float64.sub (max3F r g b) (min3F r g b))
  let bc := Float64.div (Float64.sub (max3F r g b) b) (Float64.sub (max3F r g b) (min3F r g b))
  let h := if (Float64.cmp r (max3F r g b) == some Ordering.eq) = true then Float64.sub bc gc else if (Float64.cmp g (max3F r g b) == some Ordering.eq) = true then Float64.sub (Float64.add 4611686018427387904 rc) bc else Float64.sub (Float64.add 4616189618054758400 gc) rc
  (Float64.divmod (Float64.div h 4618441417868443648) 4607182418800017408).snd

/-- what comes back: a new tuple of three, the first the float x -/
abbrev RetH (news : List (Addr × Obj)) (x : UInt64) (h₀ : Heap) (L : Addr) (m : Str → Option Value) (s : Shared) (Q : Value → Shared → Prop) : Prop :=
  ∀ (a : Addr) (t1 : Tok) (v2 v3 : Value) (h' : Heap) (tk' : Nat), Fr h₀ L h' m → News h₀ L h' ((a, tupO [.float x t1, v2, v3]) :: news) → (∀ q ∈ news, q.1 < a) → Q (.ref a) { s with heap := h', toks := tk' }

theorem rgb_call : ∀ (w : World) (p : Program) (loose : List Str) (mean : ExcName → Option Value) (mg mb : Str → Option Value) (news : List (Addr × Obj)) (r g b : UInt64) (t1 t2 t3 : Tok), okF r g b = true →
    Ctr w p loose mean mg mb 1 21 [.float r t1, .float g t2, .float b t3] news (RetH news (hueF r g b)) := by
  dsimp only [Ctr, RetH]
  k_fill
  w_top off
  intro w p loose mean mg mb news r g b t1 t2 t3 hok dp un gd cn cs a ccd cl outer A₀ base h₀ L m s Q E B F X N T hk hd1 hu hret
  refine wpAny_call ?_
  k_dflt cell_enter
  k_steps
  all_goals first
    | (with_reducible show Q _ _; unfold hueF at hret; simp only [*, if_true, if_false, Bool.false_eq_true] at hret; exact hret _ _ _ _ _ _ (by k_asm) (by k_asm) (by k_asm))
    | (exfalso; simp only [okF, lF, *, if_true, if_false, Bool.false_eq_true, Bool.not_true, Bool.or_false, Bool.and_false, Bool.false_and] at hok)

end Mine

end

section
open PySem PySem.W PyProof.Rows PySem.Calls
namespace Mine
set_option maxRecDepth 100000
set_option maxHeartbeats 8000000

local macro_rules | `(tactic| walk_at "call ref") => `(tactic| (k_here; (with_reducible show wpAny _ _ (call (Value.ref 21) [Value.float _ _, Value.float _ _, Value.float _ _]) _ _ _); k_dflt (refine' rgb_call _ _ _ _ _ _ _ _ _ _ _ _ _ ?k0 _ _ _ _ _ _ _ _ _ _ _ _ _ _ _ _ _ ?k1 ?k2 ?k3 ?k4 ?k5 ?kK ?kd ?ku ?_; (case k0 => assumption); (case k1 => k_asm); (case k2 => k_asm); (case k3 => k_asm); (case k4 => k_asm); (case k5 => k_asm); (case kK => first | exact rfl | assumption); (case kd => ktr_room); (case ku => ktr_units); intro a9 t9 v9 u9 h9 tk9 F9 N9 l9; (try dsimp only); (try k_fold))))

theorem fin_nan {x : UInt64} (h : Float64.isFinite x = true) (h' : Float64.isNaN x = true) : False := by
  unfold Float64.isFinite at h; unfold Float64.isNaN at h'; split at h <;> simp_all
theorem fin_inf {x : UInt64} (h : Float64.isFinite x = true) (h' : Float64.isInf x = true) : False := by
  unfold Float64.isFinite at h; unfold Float64.isInf at h'; split at h <;> simp_all
theorem no_over {k : Nat} (h : k < 100) (h' : 2 ^ 1024 - 2 ^ 970 ≤ k) : False := by
  have h1 : 100 ≤ 2 ^ 1024 - 2 ^ 970 := by decide +kernel
  exact Nat.lt_irrefl _ (Nat.lt_of_lt_of_le (Nat.lt_of_le_of_lt h' h) h1)
def hueX (r g b : UInt64) (n : Int) : UInt64 := Float64.add (Float64.mul (hueF r g b) (Float64.ofInt n)) 4602678819172646912
def hueN (r g b : UInt64) (n : Int) : Int := Flt.toInt Float64.truncOf (hueX r g b n)

theorem hue_call : ∀ (w : World) (p : Program) (loose : List Str) (mean : ExcName → Option Value) (mg mb : Str → Option Value) (news : List (Addr × Obj)) (r g b : UInt64) (n : Int) (t1 t2 t3 t4 : Tok), okF r g b = true → Float64.isFinite (hueX r g b n) = true → n.natAbs < 100 →
    Ctr w p loose mean mg mb 2 57 [.float r t1, .float g t2, .float b t3, .int n t4] news (RetV news (fun t => .int (hueN r g b n) t)) := by
  dsimp only [Ctr, RetV]
  k_fill
  w_top off
  intro w p loose mean mg mb news r g b n t1 t2 t3 t4 hok hfin hn100 dp un gd cn cs a ccd cl outer A₀ base h₀ L m s Q E B F X N T hk hd1 hu hret
  refine wpAny_call ?_
  k_dflt cell_enter
  k_steps
  all_goals first | exact (fin_nan hfin (by assumption)).elim | exact (fin_inf hfin (by assumption)).elim | exact (no_over hn100 (by assumption)).elim | skip
  refine hret _ _ _ (by k_asm) ?_
  refine' cb_drop ?a ?b
  case a => assumption
  intro q hq; exact List.mem_cons_of_mem _ hq
end Mine

end

section
open PySem PySem.W PyProof.Rows PySem.Calls PySem.Spec
namespace Mine
section
variable {prog : Program} {w : World} {A : Around} {E : Value → Shared → Prop} {s : Shared} {env : Env} {h₀ : Heap} {x : Str} {body orelse : List Stmt} {Q : Flow → Shared → Prop}

/-- a map read at one name -/
theorem map_at {m : Str → Option Value} {y : Str} {v : Value} (h : m y = some v) : m = fun z => if z = y then some v else m z := by
  funext z; by_cases e : z = y
  · subst e; simp [h]
  · simp [e]

/-- what a turn of a loop over range leaves -/
def TurnEnd (h₀ : Heap) (L : Addr) (J : (Str → Option Value) → List (Addr × Obj) → Prop) (I : Addr) (own : List (Addr × Obj)) (s₁ : Shared) (Q : Flow → Shared → Prop) (f : Flow) (s₂ : Shared) : Prop :=
  match f with
  | .ret v => Q (.ret v) s₂
  | .brk => Q .next s₂
  | _ => ∃ h' tk m' news' nx, s₂ = { s₁ with heap := h', toks := tk } ∧ Fr h₀ L h' m' ∧ News h₀ L h' news' ∧ (∀ p ∈ nx, p ∈ news') ∧ (∀ p ∈ own, p ∈ news') ∧ (∀ p ∈ nx, p.1 ≠ I) ∧ J m' nx

theorem TurnEnd.go {L : Addr} {J : (Str → Option Value) → List (Addr × Obj) → Prop} {I : Addr} {own news' nx : List (Addr × Obj)} {s₁ : Shared} {h' : Heap} {m' : Str → Option Value} {tk : Nat} (F : Fr h₀ L h' m') (N : News h₀ L h' news') (h1 : ∀ p ∈ nx, p ∈ news') (h2 : ∀ p ∈ own, p ∈ news') (h3 : ∀ p ∈ nx, p.1 ≠ I) (hJ : J m' nx) :
    TurnEnd h₀ L J I own s₁ Q .next { s₁ with heap := h', toks := tk } := ⟨h', tk, m', news', nx, rfl, F, N, h1, h2, h3, hJ⟩
theorem TurnEnd.stop {L : Addr} {J : (Str → Option Value) → List (Addr × Obj) → Prop} {I : Addr} {own : List (Addr × Obj)} {s₁ s₂ : Shared} (h : Q .next s₂) : TurnEnd h₀ L J I own s₁ Q .brk s₂ := h

/-- a loop over a range, its else (if any) never reached, or empty: an invariant over the turn's number, the names and the ledger -/
theorem range_loop {r : Addr} {b₀ : Int} {t₀ u₀ v₀ : Tok} {n : Nat} {m₀ : Str → Option Value} {news : List (Addr × Obj)} (J : Nat → (Str → Option Value) → List (Addr × Obj) → Prop)
    (hh : A.handled = none) (hr : IsRange s.heap r 0 b₀ 1 t₀ u₀ v₀) (hsmall : Builtin.Range.small 0 b₀ 1 = true) (hn : Builtin.Range.rangeSize 0 b₀ 1 = (n : Int))
    (hx : env.kindOf x = some .local) (hp : (env.scope.kind == .class || (env.scope.kind == .module && env.locals != env.globals)) = false) (hE : PassesOwn (model prog w) A env E)
    (F : Fr h₀ env.locals s.heap m₀) (N : News h₀ env.locals s.heap news) (hj : J 0 m₀ news)
    (turn : ∀ (i : Nat) t m₁ nx h tk I own, i < n → (∀ p ∈ nx, p.1 ≠ I) → own.map (·.1) = [I] → (∀ p ∈ news, p.1 < I) → J i m₁ nx → Fr h₀ env.locals h (fun y => if y = x then some (.int i t) else m₁ y) → News h₀ env.locals h (nx ++ own) →
      wpAny (model prog w) A (execs body env) (TurnEnd h₀ env.locals (J (i + 1)) I own { s with heap := h, toks := tk } Q) E { s with heap := h, toks := tk })
    (done : ∀ m₁ nx h tk, J n m₁ nx → Fr h₀ env.locals h m₁ → News h₀ env.locals h nx → wpAny (model prog w) A (execs orelse env) Q E { s with heap := h, toks := tk }) {px : Pos} :
    wpAny (model prog w) A (pyIter (.ref r)) (fun it s₂ => codeAny (model prog w) A (.forLoop (.Name x px) it body orelse env) (fun r s' => match r with | .ok f => Q f s' | .error e => cameBackBy (model prog w) A env E e s') s₂) E s := by
  refine wpAny_pyIter_range hr hsmall ?_
  have hIL : s.heap.objs.size ≠ env.locals := fun e => absurd F.ns.lt (by rw [← e]; exact Nat.lt_irrefl _)
  have hI0 : h₀.get? s.heap.objs.size = none := next_is_new F
  have W : Walks prog w A s.heap.objs.size [s.heap.objs.size] [s.heap.objs.size] n (fun i v => i < n ∧ ∃ t, v = .int (0 + i * 1) t)
      (fun i h => IsRangeIter h s.heap.objs.size (0 + (i : Nat) * 1) ((n : Int) - (i : Nat)) 1) := (Walks.range hh _ 0 1 n).bound
  have keepN : ∀ p ∈ news, p.1 < s.heap.objs.size := fun p hp => Heap.lt_size (N p hp).1
  generalize hIe : s.heap.objs.size = I at *
  refine codeAny_forLoop
    (fun k s' => ∃ h' tk m' nx i, s' = { s with heap := h', toks := tk } ∧ IsRangeIter h' I (0 + (i : Nat) * 1) ((n : Int) - (i : Nat)) 1 ∧ Fr h₀ env.locals h' m' ∧ News h₀ env.locals h' nx ∧ (∀ p ∈ nx, p.1 ≠ I) ∧ J i m' nx ∧ i ≤ n ∧ k = n + 1 - i) ?_ (n + 1)
    ⟨_, s.toks, m₀, news, 0, rfl, by show IsRangeIter _ _ _ _ _; rw [hn]; subst hIe; simpa using Heap.get?_push_size _ rfl, F.push _, fun p hp => ⟨Heap.get?_push_of_some _ (N p hp).1, (N p hp).2⟩, fun p hp => Nat.ne_of_lt (keepN p hp), hj, Nat.zero_le _, rfl⟩
  rintro k s' ⟨h', tk, m', nx, i, rfl, hst', F', N', hnw', hJ, hi, rfl⟩
  have next : ∀ h₁ : Heap, (∀ b o, b ∉ [I] → h'.get? b = some o → h₁.get? b = some o) → Fr h₀ env.locals h₁ m' ∧ News h₀ env.locals h₁ nx := fun h₁ hk₁ =>
    ⟨⟨F'.ns.at' fun o e => hk₁ _ o (by simpa using Ne.symm hIL) e, fun b o e => hk₁ b o (by simp; intro q; subst q; rw [hI0] at e; cases e) (F'.keep b o e), F'.above⟩, fun p hp => ⟨hk₁ _ _ (by simpa using hnw' p hp) (N' p hp).1, (N' p hp).2⟩⟩
  by_cases hlt : i < n
  · refine W.item i _ _ _ hlt hst' fun v h₁ tk₁ hP hst₁ hk₁ => ?_
    obtain ⟨_, t, rfl⟩ := hP
    obtain ⟨F₁, N₁⟩ := next h₁ hk₁
    refine wpAny_assign_Name (wpAny_storeName_local hx F₁.ns (fun h₂ hn₂ hs₂ => ?_) hp)
    have F₂ := F₁.set hn₂ hs₂
    have hst₂ : IsRangeIter h₂ I (0 + ((i + 1 : Nat) : Int) * 1) ((n : Int) - ((i + 1 : Nat) : Int)) 1 := W.frame (i + 1) _ _ hst₁ fun b hb o e => (hs₂.2 b (by rw [List.mem_singleton.mp hb]; exact hIL)).trans e
    have hN3 : News h₀ env.locals h₂ (nx ++ [(I, { cls := .type "range_iterator", data := .fields #[rawInt (0 + ((i + 1 : Nat) : Int) * 1), rawInt ((n : Int) - ((i + 1 : Nat) : Int)), rawInt 1] })]) := fun p hp => by
      rcases List.mem_append.mp hp with hp | hp
      · exact N₁.set hs₂ p hp
      · rw [List.mem_singleton.mp hp]; exact ⟨hst₂, hIL, hI0⟩
    have e0 : ((0 : Int) + (i : Int) * 1) = (i : Int) := by omega
    rw [e0] at F₂
    refine wpAny_mono (wpAny_passesOwn hE (turn i t m' nx h₂ _ I _ hlt hnw' rfl keepN hJ F₂ hN3)) (fun f s₃ h₃ => ?_) fun _ _ e => e
    have fin : (∃ h' tk' m' news' nx', s₃ = { s with heap := h', toks := tk' } ∧ Fr h₀ env.locals h' m' ∧ News h₀ env.locals h' news' ∧ (∀ p ∈ nx', p ∈ news') ∧ (∀ p ∈ [(I, ({ cls := .type "range_iterator", data := .fields #[rawInt (0 + ((i + 1 : Nat) : Int) * 1), rawInt ((n : Int) - ((i + 1 : Nat) : Int)), rawInt 1] } : Obj))], p ∈ news') ∧ (∀ p ∈ nx', p.1 ≠ I) ∧ J (i + 1) m' nx') →
        ∃ m, m < n + 1 - i ∧ ∃ h' tk m' nx i, s₃ = { s with heap := h', toks := tk } ∧ IsRangeIter h' I (0 + (i : Nat) * 1) ((n : Int) - (i : Nat)) 1 ∧ Fr h₀ env.locals h' m' ∧ News h₀ env.locals h' nx ∧ (∀ p ∈ nx, p.1 ≠ I) ∧ J i m' nx ∧ i ≤ n ∧ m = n + 1 - i := by
      rintro ⟨h₃', tk₃, m₃, news₃, nx₃, rfl, F₃, N₃, a1, a2, a3, hJ₃⟩
      exact ⟨n + 1 - (i + 1), by omega, h₃', tk₃, m₃, nx₃, i + 1, rfl, (N₃ _ (a2 _ (.head _))).1, F₃, fun p hp => N₃ p (a1 p hp), a3, hJ₃, hlt, rfl⟩
    cases f with
    | ret v => exact h₃
    | brk => exact h₃
    | cont => exact fin h₃
    | next => exact fin h₃
  · have hin : i = n := by omega
    subst hin
    refine W.done _ _ _ hst' fun h₁ tk₁ hk₁ => ?_
    obtain ⟨F₁, N₁⟩ := next h₁ hk₁
    exact wpAny_passesOwn hE (done m' nx h₁ tk₁ hJ F₁ N₁)
end
end Mine

end

section
open PySem PySem.W PyProof.Rows PySem.Calls
namespace Mine
set_option maxRecDepth 100000
set_option maxHeartbeats 8000000

local macro_rules | `(tactic| walk_at "exec For Name Call cons cons") => `(tactic| (k_here; with_unfolding_all refine wpAny_For ?_))

def flagNames : List Str := [Str.ofString "OPTIMIZED", Str.ofString "NEWLOCALS", Str.ofString "VARARGS", Str.ofString "VARKEYWORDS", Str.ofString "NESTED", Str.ofString "GENERATOR", Str.ofString "NOFREE"]
/-- the flags that are left at turn i -/
def flLeft (n : Int) (i : Nat) : Int := n / 2 ^ i * 2 ^ i
def nmTaken (n : Int) (i : Nat) : List Str := ((List.range i).filter fun j => n.toNat.testBit j).map fun j => flagNames.getD j Str.empty

theorem flLeft_zero (n : Int) : flLeft n 0 = n := by simp [flLeft]
theorem flLeft_small {n : Int} {i : Nat} (hn : 0 < n ∧ n < 128) (h : flLeft n i ≠ 0) : i < 7 := by
  refine Decidable.byContradiction fun hi => h ?_
  have h1 : (2 : Int) ^ 7 ≤ 2 ^ i := by
    exact_mod_cast Nat.pow_le_pow_right (by decide) (by omega : 7 ≤ i)
  have h2 : n / 2 ^ i = 0 := Int.ediv_eq_zero_of_lt (by omega) (by omega)
  unfold flLeft; rw [h2, Int.zero_mul]

def prettyJ (n : Int) (l0 : Addr) (news : List (Addr × Obj)) (i : Nat) (m : Str → Option Value) (nx : List (Addr × Obj)) : Prop :=
  ∃ t vs ep, m (Str.ofString "flags") = some (.int (flLeft n i) t) ∧ m (Str.ofString "names") = some (.ref l0) ∧ nx = (l0, W.listOf vs ep) :: news ∧ StrsAre vs.toList (nmTaken n i) ∧ flLeft n i ≠ 0

def flagTab : List (Int × PyData) := [(1, PyData.str ⟨#[79, 80, 84, 73, 77, 73, 90, 69, 68]⟩), (2, PyData.str ⟨#[78, 69, 87, 76, 79, 67, 65, 76, 83]⟩), (4, PyData.str ⟨#[86, 65, 82, 65, 82, 71, 83]⟩), (8, PyData.str ⟨#[86, 65, 82, 75, 69, 89, 87, 79, 82, 68, 83]⟩), (16, PyData.str ⟨#[78, 69, 83, 84, 69, 68]⟩), (32, PyData.str ⟨#[71, 69, 78, 69, 82, 65, 84, 79, 82]⟩), (64, PyData.str ⟨#[78, 79, 70, 82, 69, 69]⟩), (128, PyData.str ⟨#[67, 79, 82, 79, 85, 84, 73, 78, 69]⟩), (256, PyData.str ⟨#[73, 84, 69, 82, 65, 66, 76, 69, 95, 67, 79, 82, 79, 85, 84, 73, 78, 69]⟩), (512, PyData.str ⟨#[65, 83, 89, 78, 67, 95, 71, 69, 78, 69, 82, 65, 84, 79, 82]⟩)]
theorem flagTab_at {i : Nat} (h : i < 7) : PySem.Spec.lookup (PyData.int (1 * 2 ^ ((i : Int)).toNat)) (flagTab.map fun p => (PyData.int p.1, p.2)) = some (PyData.str (flagNames.getD i Str.empty)) := by
  match i, h with
  | 0, _ => kernel_rfl
  | 1, _ => kernel_rfl
  | 2, _ => kernel_rfl
  | 3, _ => kernel_rfl
  | 4, _ => kernel_rfl
  | 5, _ => kernel_rfl
  | 6, _ => kernel_rfl
theorem hex_size {i : Nat} (h : i < 7) : (baseText "0x" 16 (1 * 2 ^ ((i : Int)).toNat)).length ≤ sizeLine := by
  match i, h with
  | 0, _ => decide +kernel
  | 1, _ => decide +kernel
  | 2, _ => decide +kernel
  | 3, _ => decide +kernel
  | 4, _ => decide +kernel
  | 5, _ => decide +kernel
  | 6, _ => decide +kernel
theorem get_flag {prog : Program} {w : World} {A : Around} {E : Value → Shared → Prop} {s : Shared} {h₀ : Heap} {L : Addr} {m : Str → Option Value} {i : Nat} {t u : Tok} {y : Str} {Q : Value → Shared → Prop}
    (K : KTD.Keyed h₀ 36 flagTab) (F : Fr h₀ L s.heap m) (hi : i < 7) (h : ∀ t', Q (.str (flagNames.getD i Str.empty) t') { s with toks := s.toks + 1 }) :
    wpAny (model prog w) A (call (.builtin "dict.get") [.ref 36, .int (1 * 2 ^ ((i : Int)).toNat) t, .str y u]) Q E s := by
  refine call_get2_intTab (K.keep F.keep prog w) (dd := .str y) ?_ fun v hv => ?_
  · exact PyProof.V.Flat.str y u
  · rw [flagTab_at hi] at hv
    obtain ⟨t', rfl⟩ := PyProof.V.Flat.str_inv hv
    exact h _

/-- the turn's arithmetic, for all flags under 128 and all seven turns -/
def turnOk (n i : Nat) : Bool :=
  let a := Builtin.bitAnd (flLeft n i) (1 * 2 ^ ((i : Int)).toNat)
  if a = 0 then decide (flLeft n (i + 1) = flLeft n i ∧ nmTaken n (i + 1) = nmTaken n i)
  else decide (Builtin.bitXor (flLeft n i) (1 * 2 ^ ((i : Int)).toNat) = flLeft n (i + 1) ∧ nmTaken n (i + 1) = nmTaken n i ++ [flagNames.getD i Str.empty] ∧ (flLeft n (i + 1) = 0 → nmTaken n (i + 1) = nmTaken n 7))
theorem turnOk_all : ((List.range 128).all fun n => (List.range 7).all fun i => turnOk n i) = true := by decide +kernel
theorem turnOk_at {n : Int} {i : Nat} (hn : 0 < n ∧ n < 128) (hi : i < 7) : turnOk n.toNat i = true :=
  List.all_eq_true.mp (List.all_eq_true.mp turnOk_all n.toNat (List.mem_range.mpr (by omega))) i (List.mem_range.mpr hi)
theorem turn_off {n : Int} {i : Nat} (hn : 0 < n ∧ n < 128) (hi : i < 7) (h : Builtin.bitAnd (flLeft n i) (1 * 2 ^ ((i : Int)).toNat) = 0) : flLeft n (i + 1) = flLeft n i ∧ nmTaken n (i + 1) = nmTaken n i := by
  have q := turnOk_at hn hi
  have e : ((n.toNat : Nat) : Int) = n := by omega
  unfold turnOk at q; rw [e] at q
  simp only [h, if_true] at q; exact of_decide_eq_true q
theorem turn_on {n : Int} {i : Nat} (hn : 0 < n ∧ n < 128) (hi : i < 7) (h : Builtin.bitAnd (flLeft n i) (1 * 2 ^ ((i : Int)).toNat) ≠ 0) :
    Builtin.bitXor (flLeft n i) (1 * 2 ^ ((i : Int)).toNat) = flLeft n (i + 1) ∧ nmTaken n (i + 1) = nmTaken n i ++ [flagNames.getD i Str.empty] ∧ (flLeft n (i + 1) = 0 → nmTaken n (i + 1) = nmTaken n 7) := by
  have q := turnOk_at hn hi
  have e : ((n.toNat : Nat) : Int) = n := by omega
  unfold turnOk at q; rw [e] at q
  simp only [h, if_false] at q; exact of_decide_eq_true q
theorem strs_push {vs : Array Value} {ys : List Str} {y : Str} {t : Tok} (h : StrsAre vs.toList ys) : StrsAre (vs.push (.str y t)).toList (ys ++ [y]) := by
  rw [Array.toList_push]
  generalize vs.toList = l at h
  induction h with
  | nil => exact .cons y t .nil
  | cons z u _ ih => exact .cons z u ih
theorem nm_size (n : Int) (i : Nat) : (nmTaken n i).length ≤ i := by
  unfold nmTaken; rw [List.length_map]; exact Nat.le_trans (List.length_filter_le _ _) (by simp)
theorem flag_len (i : Nat) : (flagNames.getD i Str.empty).length ≤ 11 := by
  match i with
  | 0 | 1 | 2 | 3 | 4 | 5 | 6 => decide +kernel
  | a + 7 => exact Nat.zero_le _
theorem nm_sum (n : Int) (i : Nat) : ((nmTaken n i).map (·.length)).sum ≤ i * 11 := by
  unfold nmTaken
  rw [List.map_map]
  have key : ∀ l : List Nat, ((l.filter fun j => n.toNat.testBit j).map ((fun x : Str => x.length) ∘ fun j => flagNames.getD j Str.empty)).sum ≤ l.length * 11 := by
    intro l
    induction l with
    | nil => simp
    | cons a l ih =>
      have ha := flag_len a
      rw [List.filter_cons]
      split
      · simp only [List.map_cons, List.sum_cons, Function.comp, List.length_cons] at ih ⊢; omega
      · simp only [List.length_cons] at ih ⊢; omega
  simpa using key (List.range i)
theorem nm_join (n : Int) {i : Nat} (hi : i < 7) : ((nmTaken n i ++ [flagNames.getD i Str.empty]).map (·.length)).sum + (nmTaken n i ++ [flagNames.getD i Str.empty]).length * 64 ≤ 16777216 := by
  have h1 := nm_size n i
  have h2 := nm_sum n i
  have h3 := flag_len i
  simp only [List.map_append, List.sum_append, List.length_append, List.map_cons, List.map_nil, List.sum_cons, List.sum_nil, List.length_cons, List.length_nil]
  omega
theorem strs_len {vs : List Value} {ys : List Str} (h : StrsAre vs ys) : vs.length = ys.length := by
  induction h with
  | nil => rfl
  | cons _ _ _ ih => simp [ih]
end Mine

end

section
open PySem PySem.W PyProof.Rows PySem.Calls
namespace Mine
local macro_rules | `(tactic| walk_at "nothing 0") => `(tactic| skip)
local macro_rules | `(tactic| walk_at "nothing 1") => `(tactic| skip)
local macro_rules | `(tactic| walk_at "nothing 2") => `(tactic| skip)
local macro_rules | `(tactic| walk_at "nothing 3") => `(tactic| skip)
local macro_rules | `(tactic| walk_at "nothing 4") => `(tactic| skip)
local macro_rules | `(tactic| walk_at "nothing 5") => `(tactic| skip)
local macro_rules | `(tactic| walk_at "nothing 6") => `(tactic| skip)
set_option maxRecDepth 100000
set_option maxHeartbeats 8000000

local macro_rules | `(tactic| walk_at "exec For Name Call cons cons") => `(tactic| (k_here; with_unfolding_all refine wpAny_For ?_))
local macro_rules | `(tactic| walk_at "call builtin:hex") => `(tactic| (k_here; k_dflt (refine' P.hex_of_int ?_ ?hz; (case hz => exact hex_size (by assumption)))))
local macro_rules | `(tactic| walk_at "call builtin:dict.get") => `(tactic| (k_here; (with_reducible show wpAny _ _ (call (Value.builtin "dict.get") [Value.ref 36, Value.int _ _, Value.str _ _]) _ _ _); k_dflt (refine' get_flag ?k1 ?k2 ?k3 ?_; (case k1 => assumption); (case k2 => k_asm); (case k3 => assumption); intro t'; (try dsimp only))))
local macro_rules | `(tactic| walk_at "call builtin:list.append") => `(tactic| (k_here; (with_reducible show wpAny _ _ (call (Value.builtin _) [Value.ref _, _]) _ _ _); k_dflt (refine' append_K ?k1 ?k2 ?k3 ?_ ?z; (case k1 => k_asm); (case k2 => k_asm); (case k3 => exact Upd.head (by assumption)); (case z => assumption)); intro h' F' N'; (try dsimp only); (try k_sweep)))
local macro_rules | `(tactic| walk_at "call builtin:str.join") => `(tactic| (k_here; k_dflt (refine' join_listC ?k1 ?k2 ?k3 ?k4 ?_; (case k1 => exact News.isList (by k_asm) (.head _)); (case k2 => exact strs_push (by assumption)); (case k3 => decide +kernel); (case k4 => assumption); intro t' k'; (try dsimp only))))

def prettyS (n : Int) : Str := Txt.join (Str.ofString ", ") (nmTaken n 7)

theorem pretty_call : ∀ (w : World) (p : Program) (loose : List Str) (mean : ExcName → Option Value) (mg mb : Str → Option Value) (news : List (Addr × Obj)) (n : Int) (t1 : Tok), 0 < n ∧ n < 128 →
    Ctr w p loose mean mg mb 1 43 [.int n t1] news (RetV news (fun t => .str (prettyS n) t)) := by
  dsimp only [Ctr, RetV]
  k_fill
  w_top off
  intro w p loose mean mg mb news n t1 hn128 dp un gd cn cs a ccd cl outer A₀ base h₀ L m s Q E B F X N T hk hd1 hu hret
  refine wpAny_call ?_
  k_dflt cell_enter
  k_steps
  rename_i g0 L0 h0' FG0 B0 X0 T0 tk0 l0 h1' l1' h2' F2 N2 h3' tk3 ta tb tc hR hF hN hKeep
  refine range_loop (n := 32) (prettyJ n l0 news) rfl hR (by decide +kernel) (by decide +kernel) rfl rfl (by passes_own) hF hN ?_ ?_ ?_
  · exact ⟨t1, #[], 0, by rw [flLeft_zero]; rfl, rfl, rfl, .nil, by rw [flLeft_zero]; omega⟩
  · intro i t m₁ nx h tk I own hi hnx hown hlt ⟨tf, vs, ep, hm1, hm2, hnxe, hS, hne⟩ F1 N1
    subst hnxe
    have hi7 := flLeft_small hn128 hne
    rw [map_at hm1, map_at hm2] at F1
    simp only [List.cons_append] at N1
    have hre : ∀ p ∈ news ++ own, p.1 ≠ l0 := by
      intro p hp
      rcases List.mem_append.mp hp with hp | hp
      · exact Nat.ne_of_lt (l1' p hp)
      · have hI : p.1 = I := by
          have : p.1 ∈ own.map (·.1) := List.mem_map.mpr ⟨p, hp, rfl⟩
          rw [hown] at this; exact List.mem_singleton.mp this
        rw [hI]; exact Nat.ne_of_gt (hlt _ (.head _))
    have hsz : vs.size ≤ sizeLine := by
      have h1 := strs_len hS
      have h2 := nm_size n i
      rw [← Array.length_toList, h1, sizeLine_eq]; omega
    have hjn := nm_join n hi7
    generalize hrest : news ++ own = rest at N1 hre
    have hin : ∀ p ∈ news, p ∈ rest := by intro p hp; rw [← hrest]; exact List.mem_append_left _ hp
    have hio : ∀ p ∈ own, p ∈ rest := by intro p hp; rw [← hrest]; exact List.mem_append_right _ hp
    have hne' : ∀ (o : Obj), ∀ p ∈ (l0, o) :: news, p.1 ≠ I := by
      intro o p hp
      rcases List.mem_cons.mp hp with rfl | hp
      · exact hnx (l0, W.listOf vs ep) (.head _)
      · exact hnx _ (.tail _ hp)
    have hsub : ∀ (o : Obj), ∀ p ∈ (l0, o) :: news, p ∈ (l0, o) :: rest := by
      intro o p hp
      rcases List.mem_cons.mp hp with rfl | hp
      · exact .head _
      · exact .tail _ (hin p hp)
    clear F2 N2 hF hN hR hKeep
    k_steps
    · have q := turn_on hn128 hi7 (by assumption)
      refine TurnEnd.go (nx := (l0, _) :: news) (by assumption) (by assumption) (hsub _) (fun p hp => .tail _ (hio p hp)) (hne' _) ⟨_, _, _, by rw [← q.1]; rfl, rfl, rfl, by rw [q.2.1]; exact strs_push hS, by rw [← q.1]; assumption⟩
    · dsimp only
      refine TurnEnd.stop ?_
      dsimp only
      have q := turn_on hn128 hi7 (by assumption)
      have q2 : nmTaken n i ++ [flagNames.getD i Str.empty] = nmTaken n 7 := by
        rw [← q.2.1]; exact q.2.2 (by rw [← q.1]; assumption)
      k_steps
      unfold prettyS at hret
      rw [← q2] at hret
      exact hret _ _ _ (by k_asm) (cb_drop (by k_asm) (by intro p hp; exact .tail _ (hin p hp)))
    · have q := turn_off hn128 hi7 (by assumption)
      refine TurnEnd.go (nx := (l0, _) :: news) (by assumption) (by assumption) (hsub _) (fun p hp => .tail _ (hio p hp)) (hne' _) ⟨_, _, _, by rw [q.1]; rfl, rfl, rfl, by rw [q.2]; exact hS, by rw [q.1]; assumption⟩
  · intro m₁ nx h tk ⟨tf, vs, ep, hm1, hm2, hnxe, hS, hne⟩ F1 N1
    exact absurd (flLeft_small hn128 hne) (by decide)

end Mine

end

section
open PySem PySem.W PyProof.Rows PySem.Calls PySem.Spec
namespace Mine
section
variable {prog : Program} {w : World} {A : Around} {E : Value → Shared → Prop} {s : Shared} {env : Env} {h₀ : Heap} {x : Str} {body : List Stmt} {Q : Flow → Shared → Prop}
/-- a loop over a list that the call has made and that the turns leave alone -/
theorem list_loop {D : Addr} {vs : List Value} {ep : Nat} {m₀ : Str → Option Value} {nx0 : List (Addr × Obj)} (J : Nat → (Str → Option Value) → List (Addr × Obj) → Prop)
    (hh : A.handled = none) (F : Fr h₀ env.locals s.heap m₀) (N : News h₀ env.locals s.heap ((D, W.listOf vs.toArray ep) :: nx0)) (hD : ∀ p ∈ nx0, p.1 ≠ D) (hj : J 0 m₀ nx0)
    (turn : ∀ i v m₁ nx h tk own, vs[i]? = some v → nx.map (·.1) = nx0.map (·.1) → OwnOff own (nx0.map (·.1)) → J i m₁ nx → Fr h₀ env.locals h (fun y => if y = x then some v else m₁ y) → News h₀ env.locals h (nx ++ own) →
      wpAny (model prog w) A (execs body env) (InvPostN h₀ env.locals (J (i + 1)) own (nx0.map (·.1)) { s with heap := h, toks := tk } Q) E { s with heap := h, toks := tk })
    (done : ∀ m₁ nx h tk, J vs.length m₁ nx → Fr h₀ env.locals h m₁ → News h₀ env.locals h nx → Q .next { s with heap := h, toks := tk }) :
    wpAny (model prog w) A (pyIter (.ref D)) (fun it s₂ => LoopAtV prog w A h₀ env x body Q E it s₂) E s := by
  have hax := N _ (.head _)
  have hl : s.heap.IsList D vs.toArray := ⟨_, hax.1, rfl, ep, rfl⟩
  have hne : D ≠ s.heap.objs.size := Nat.ne_of_lt (Heap.lt_size hax.1)
  have hIL : env.locals ≠ s.heap.objs.size := Nat.ne_of_lt F.ns.lt
  have N0 : News h₀ env.locals s.heap nx0 := fun p hp => N p (.tail _ hp)
  refine wpAny_pyIter_list hl ?_
  have W := Walks.list (prog := prog) (w := w) hh s.heap.objs.size D hne vs.toArray
  have hlen : vs.toArray.size = vs.length := by simp
  rw [hlen] at W
  refine loop_invN J W ?_ ?_ ?_ ?_ ⟨⟨_, Heap.get?_push_size _ rfl, rfl, rfl⟩, hl.at fun o e => Heap.get?_push_of_some _ e⟩ (F.push _) (fun p hp => ⟨Heap.get?_push_of_some _ (N0 p hp).1, (N0 p hp).2⟩) hj ?_ ?_
  · intro hm
    rcases List.mem_cons.mp hm with e | hm
    · exact hIL e
    · exact hax.2.1 (List.mem_singleton.mp hm).symm
  · intro b hb
    rw [List.mem_singleton.mp hb]; exact next_is_new F
  · intro p hp hI
    exact absurd (Heap.lt_size (N0 p hp).1) ((List.mem_singleton.mp hI) ▸ Nat.lt_irrefl _)
  · intro p hp hI
    rcases List.mem_cons.mp hI with e | hI
    · exact absurd (Heap.lt_size (N0 p hp).1) (e ▸ Nat.lt_irrefl _)
    · exact hD p hp (List.mem_singleton.mp hI)
  · intro i v m₁ nx h tk own hi hP ha ho hJ F' N'
    exact turn i v m₁ nx h tk own (by simpa using hP) ha ho hJ F' N'
  · exact done
end
end Mine

end

section
open PySem PySem.W PyProof.Rows PySem.Calls PySem.Builtin PySem.Builtin.Str
namespace Mine
def find4 (x y : Str) (i j : Int) : Int := match occurrences x y (fromIndex x.length i) (min (fromIndex x.length j) x.length) 1 with | k :: _ => (k : Int) | [] => -1
theorem gives_find4 (x y : Str) (i j : Int) (t u v v' : Tok) : Gives (Builtin.«str.find» ⟨[.str x t, .str y u, .int i v, .int j v'], []⟩) (.int (find4 x y i j)) := by
  show Gives (match occurrences x y (fromIndex x.length i) (min (fromIndex x.length j) x.length) 1 with | k :: _ => retInt k | [] => (do rule "str.find.not-found"; retInt (-1))) _
  unfold find4
  cases occurrences x y (fromIndex x.length i) (min (fromIndex x.length j) x.length) 1 with
  | nil => exact .rule (.of_eq rfl)
  | cons k _ => exact .of_eq rfl
theorem call_find4 {prog : Program} {w : World} {A : Around} {E : Value → Shared → Prop} {s : Shared} {x y : Str} {t u v v' : Tok} {i j : Int} {Q : Value → Shared → Prop}
    (hq : Q (.int (find4 x y i j) s.toks) { s with toks := s.toks + 1 }) : wpAny (model prog w) A (call (.builtin "str.find") [.str x t, .str y u, .int i v, .int j v']) Q E s :=
  call_gives F.slot_str_find (typeIs_str _ _ _) F.entry_str_find (F.args_str_find_4 _ _ _ _) (gives_find4 x y i j t u v v') hq
end Mine

end

section
open PySem PySem.W PyProof.Rows PySem.Calls
namespace Mine
local macro_rules | `(tactic| walk_at "nothing 0") => `(tactic| skip)
local macro_rules | `(tactic| walk_at "nothing 1") => `(tactic| skip)
local macro_rules | `(tactic| walk_at "nothing 2") => `(tactic| skip)
local macro_rules | `(tactic| walk_at "nothing 3") => `(tactic| skip)
local macro_rules | `(tactic| walk_at "nothing 4") => `(tactic| skip)
local macro_rules | `(tactic| walk_at "nothing 5") => `(tactic| skip)
local macro_rules | `(tactic| walk_at "nothing 6") => `(tactic| skip)
local macro_rules | `(tactic| walk_at "nothing 7") => `(tactic| skip)
local macro_rules | `(tactic| walk_at "nothing 8") => `(tactic| skip)
local macro_rules | `(tactic| walk_at "nothing 9") => `(tactic| skip)
local macro_rules | `(tactic| walk_at "nothing 10") => `(tactic| skip)
local macro_rules | `(tactic| walk_at "nothing 11") => `(tactic| skip)
local macro_rules | `(tactic| walk_at "nothing 12") => `(tactic| skip)
local macro_rules | `(tactic| walk_at "nothing 13") => `(tactic| skip)
set_option maxRecDepth 100000
set_option maxHeartbeats 8000000

local macro_rules | `(tactic| walk_at "call builtin:str.split") => `(tactic| (k_here; k_dflt (refine' KSpl.split1 ?k1 ?k2 ?k3 ?_ ?k4; (case k1 => k_asm); (case k2 => k_asm); (case k3 => decide +kernel); (case k4 => assumption); intro D' l' h' k' e' a' F' N' l1; (try k_lt l1); (rw [‹Txt.split _ _ = _›] at e'); kspl_open e'; (simp only [strValues, List.map_cons, List.map_nil] at N' a'))))
local macro_rules | `(tactic| walk_at "exec For Name Name cons nil") => `(tactic| (k_here; (rename Fr _ _ _ _ => lF'); (with_unfolding_all refine' For_invVF lF' ?k1 ?k2 ?_; (case k1 => exact rfl); (case k2 => exact rfl); k_whole)))

def ellJ (news : List (Addr × Obj)) (w0 wl got : Str) (_ : Nat) (m : Str → Option Value) (nx : List (Addr × Obj)) : Prop :=
  nx = news ∧ (∃ z t, m (Str.ofString "startpos") = some (.int z t) ∧ z = w0.length) ∧ (∃ t, m (Str.ofString "endpos") = some (.int ((got.length : Int) - wl.length) t)) ∧ ∃ t, m (Str.ofString "got") = some (.str got t)
theorem ell_item {vs : List Value} {i : Nat} {v : Value} (h : vs[i]? = some v) (ha : ∀ v ∈ vs, ∃ t, v = .str (Str.ofString "") t) : ∃ t, v = .str (Str.ofString "") t := ha v (List.mem_of_getElem? h)
local macro_rules | `(tactic| walk_at "call builtin:str.find") => `(tactic| (k_here; k_dflt (refine' call_find4 ?_; (rw [‹find4 _ _ _ _ = _›]); (try dsimp only))))
theorem ell_call0 : ∀ (w : World) (p : Program) (loose : List Str) (mean : ExcName → Option Value) (mg mb : Str → Option Value) (news : List (Addr × Obj)) (want got w0 wl : Str) (b : Bool) (t1 t2 : Tok), Txt.split want (Str.ofString "...") = [w0, wl] →
    (Builtin.Str.occurrences want (Str.ofString "...") 0 want.length 1).isEmpty = false → want.length + 2 ≤ sizeLine → got.length ≤ 1000 → w0.length ≤ 1000 → wl.length ≤ 1000 →
    (w0.length : Int) ≠ 0 → (wl.length : Int) ≠ 0 → Txt.startswith got w0 = true → Txt.endswith got wl = b → w0.length + wl.length ≤ got.length → find4 got (Str.ofString "") w0.length ((got.length : Int) - wl.length) = w0.length →
    Ctr w p loose mean mg mb 1 50 [.str want t1, .str got t2] news (RetV news (fun _ => .bool b)) := by
  dsimp only [Ctr, RetV]
  k_fill
  w_top off
  intro w p loose mean mg mb news want got w0 wl b t1 t2 hsp hocc hwz hgz hw0z hwlz hn0 hnl hst hen hlen hfind dp un gd cn cs a ccd cl outer A₀ base h₀ L m s Q E B F X N T hk hd1 hu hret
  refine wpAny_call ?_
  k_dflt cell_enter
  k_steps
  all_goals try (exfalso; omega)
  · rename Fr _ _ _ _ => lF
    rename News _ _ _ _ => lN
    have hb : b = true := by rw [← hen]; assumption
    subst hb
    refine list_loop (nx0 := news) (ellJ news w0 wl got) rfl lF (cb_drop lN (by intro p hp; exact .tail _ hp)) (by intro p hp; exact Nat.ne_of_lt ((‹∀ p ∈ news, p.1 < _›) p hp)) ?_ ?_ ?_
    · exact ⟨rfl, ⟨_, _, rfl, rfl⟩, ⟨_, rfl⟩, ⟨_, rfl⟩⟩
    · intro i v m₁ nx h tk own hi hnx hown ⟨hnxe, ⟨z, ta, hm1, hz⟩, ⟨tb, hm2⟩, ⟨tc, hm3⟩⟩ F1 N1
      simp at hi
    · intro m₁ nx h tk ⟨hnxe, _, _, _⟩ F1 N1
      rw [hnxe] at N1
      dsimp only
      k_steps
      exact hret 0 _ _ (by k_asm) (by k_asm)
  · have hb : b = false := by rw [← hen]; assumption
    subst hb
    exact hret 0 _ _ (by k_asm) (cb_drop (by k_asm) (by intro p hp; exact .tail _ (.tail _ hp)))

theorem ell_call1 : ∀ (w : World) (p : Program) (loose : List Str) (mean : ExcName → Option Value) (mg mb : Str → Option Value) (news : List (Addr × Obj)) (want got w0 wl : Str) (b : Bool) (t1 t2 : Tok), Txt.split want (Str.ofString "...") = [w0, Str.ofString "", wl] →
    (Builtin.Str.occurrences want (Str.ofString "...") 0 want.length 1).isEmpty = false → want.length + 2 ≤ sizeLine → got.length ≤ 1000 → w0.length ≤ 1000 → wl.length ≤ 1000 →
    (w0.length : Int) ≠ 0 → (wl.length : Int) ≠ 0 → Txt.startswith got w0 = true → Txt.endswith got wl = b → w0.length + wl.length ≤ got.length → find4 got (Str.ofString "") w0.length ((got.length : Int) - wl.length) = w0.length →
    Ctr w p loose mean mg mb 1 50 [.str want t1, .str got t2] news (RetV news (fun _ => .bool b)) := by
  dsimp only [Ctr, RetV]
  k_fill
  w_top off
  intro w p loose mean mg mb news want got w0 wl b t1 t2 hsp hocc hwz hgz hw0z hwlz hn0 hnl hst hen hlen hfind dp un gd cn cs a ccd cl outer A₀ base h₀ L m s Q E B F X N T hk hd1 hu hret
  refine wpAny_call ?_
  k_dflt cell_enter
  k_steps
  all_goals try (exfalso; omega)
  · rename Fr _ _ _ _ => lF
    rename News _ _ _ _ => lN
    have hb : b = true := by rw [← hen]; assumption
    subst hb
    refine list_loop (nx0 := news) (ellJ news w0 wl got) rfl lF (cb_drop lN (by intro p hp; exact .tail _ hp)) (by intro p hp; exact Nat.ne_of_lt ((‹∀ p ∈ news, p.1 < _›) p hp)) ?_ ?_ ?_
    · exact ⟨rfl, ⟨_, _, rfl, rfl⟩, ⟨_, rfl⟩, ⟨_, rfl⟩⟩
    · intro i v m₁ nx h tk own hi hnx hown ⟨hnxe, ⟨z, ta, hm1, hz⟩, ⟨tb, hm2⟩, ⟨tc, hm3⟩⟩ F1 N1
      obtain ⟨tv, rfl⟩ := ell_item hi (by simp)
      subst hz
      rw [map_at hm1, map_at hm2, map_at hm3] at F1
      rw [hnxe] at N1 hnx
      clear lF lN hnxe
      k_steps
      exact ⟨_, _, _, _, news, rfl, by assumption, by assumption, fun p hp => List.mem_append_left _ hp, fun p hp => List.mem_append_right _ hp, rfl, ⟨rfl, ⟨_, _, rfl, by simp⟩, ⟨_, rfl⟩, ⟨_, rfl⟩⟩⟩
    · intro m₁ nx h tk ⟨hnxe, _, _, _⟩ F1 N1
      rw [hnxe] at N1
      dsimp only
      k_steps
      exact hret 0 _ _ (by k_asm) (by k_asm)
  · have hb : b = false := by rw [← hen]; assumption
    subst hb
    exact hret 0 _ _ (by k_asm) (cb_drop (by k_asm) (by intro p hp; exact .tail _ (.tail _ hp)))

theorem ell_call2 : ∀ (w : World) (p : Program) (loose : List Str) (mean : ExcName → Option Value) (mg mb : Str → Option Value) (news : List (Addr × Obj)) (want got w0 wl : Str) (b : Bool) (t1 t2 : Tok), Txt.split want (Str.ofString "...") = [w0, Str.ofString "", Str.ofString "", wl] →
    (Builtin.Str.occurrences want (Str.ofString "...") 0 want.length 1).isEmpty = false → want.length + 2 ≤ sizeLine → got.length ≤ 1000 → w0.length ≤ 1000 → wl.length ≤ 1000 →
    (w0.length : Int) ≠ 0 → (wl.length : Int) ≠ 0 → Txt.startswith got w0 = true → Txt.endswith got wl = b → w0.length + wl.length ≤ got.length → find4 got (Str.ofString "") w0.length ((got.length : Int) - wl.length) = w0.length →
    Ctr w p loose mean mg mb 1 50 [.str want t1, .str got t2] news (RetV news (fun _ => .bool b)) := by
  dsimp only [Ctr, RetV]
  k_fill
  w_top off
  intro w p loose mean mg mb news want got w0 wl b t1 t2 hsp hocc hwz hgz hw0z hwlz hn0 hnl hst hen hlen hfind dp un gd cn cs a ccd cl outer A₀ base h₀ L m s Q E B F X N T hk hd1 hu hret
  refine wpAny_call ?_
  k_dflt cell_enter
  k_steps
  all_goals try (exfalso; omega)
  · rename Fr _ _ _ _ => lF
    rename News _ _ _ _ => lN
    have hb : b = true := by rw [← hen]; assumption
    subst hb
    refine list_loop (nx0 := news) (ellJ news w0 wl got) rfl lF (cb_drop lN (by intro p hp; exact .tail _ hp)) (by intro p hp; exact Nat.ne_of_lt ((‹∀ p ∈ news, p.1 < _›) p hp)) ?_ ?_ ?_
    · exact ⟨rfl, ⟨_, _, rfl, rfl⟩, ⟨_, rfl⟩, ⟨_, rfl⟩⟩
    · intro i v m₁ nx h tk own hi hnx hown ⟨hnxe, ⟨z, ta, hm1, hz⟩, ⟨tb, hm2⟩, ⟨tc, hm3⟩⟩ F1 N1
      obtain ⟨tv, rfl⟩ := ell_item hi (by simp)
      subst hz
      rw [map_at hm1, map_at hm2, map_at hm3] at F1
      rw [hnxe] at N1 hnx
      clear lF lN hnxe
      k_steps
      exact ⟨_, _, _, _, news, rfl, by assumption, by assumption, fun p hp => List.mem_append_left _ hp, fun p hp => List.mem_append_right _ hp, rfl, ⟨rfl, ⟨_, _, rfl, by simp⟩, ⟨_, rfl⟩, ⟨_, rfl⟩⟩⟩
    · intro m₁ nx h tk ⟨hnxe, _, _, _⟩ F1 N1
      rw [hnxe] at N1
      dsimp only
      k_steps
      exact hret 0 _ _ (by k_asm) (by k_asm)
  · have hb : b = false := by rw [← hen]; assumption
    subst hb
    exact hret 0 _ _ (by k_asm) (cb_drop (by k_asm) (by intro p hp; exact .tail _ (.tail _ hp)))

theorem ell_call3 : ∀ (w : World) (p : Program) (loose : List Str) (mean : ExcName → Option Value) (mg mb : Str → Option Value) (news : List (Addr × Obj)) (want got w0 wl : Str) (b : Bool) (t1 t2 : Tok), Txt.split want (Str.ofString "...") = [w0, Str.ofString "", Str.ofString "", Str.ofString "", wl] →
    (Builtin.Str.occurrences want (Str.ofString "...") 0 want.length 1).isEmpty = false → want.length + 2 ≤ sizeLine → got.length ≤ 1000 → w0.length ≤ 1000 → wl.length ≤ 1000 →
    (w0.length : Int) ≠ 0 → (wl.length : Int) ≠ 0 → Txt.startswith got w0 = true → Txt.endswith got wl = b → w0.length + wl.length ≤ got.length → find4 got (Str.ofString "") w0.length ((got.length : Int) - wl.length) = w0.length →
    Ctr w p loose mean mg mb 1 50 [.str want t1, .str got t2] news (RetV news (fun _ => .bool b)) := by
  dsimp only [Ctr, RetV]
  k_fill
  w_top off
  intro w p loose mean mg mb news want got w0 wl b t1 t2 hsp hocc hwz hgz hw0z hwlz hn0 hnl hst hen hlen hfind dp un gd cn cs a ccd cl outer A₀ base h₀ L m s Q E B F X N T hk hd1 hu hret
  refine wpAny_call ?_
  k_dflt cell_enter
  k_steps
  all_goals try (exfalso; omega)
  · rename Fr _ _ _ _ => lF
    rename News _ _ _ _ => lN
    have hb : b = true := by rw [← hen]; assumption
    subst hb
    refine list_loop (nx0 := news) (ellJ news w0 wl got) rfl lF (cb_drop lN (by intro p hp; exact .tail _ hp)) (by intro p hp; exact Nat.ne_of_lt ((‹∀ p ∈ news, p.1 < _›) p hp)) ?_ ?_ ?_
    · exact ⟨rfl, ⟨_, _, rfl, rfl⟩, ⟨_, rfl⟩, ⟨_, rfl⟩⟩
    · intro i v m₁ nx h tk own hi hnx hown ⟨hnxe, ⟨z, ta, hm1, hz⟩, ⟨tb, hm2⟩, ⟨tc, hm3⟩⟩ F1 N1
      obtain ⟨tv, rfl⟩ := ell_item hi (by simp)
      subst hz
      rw [map_at hm1, map_at hm2, map_at hm3] at F1
      rw [hnxe] at N1 hnx
      clear lF lN hnxe
      k_steps
      exact ⟨_, _, _, _, news, rfl, by assumption, by assumption, fun p hp => List.mem_append_left _ hp, fun p hp => List.mem_append_right _ hp, rfl, ⟨rfl, ⟨_, _, rfl, by simp⟩, ⟨_, rfl⟩, ⟨_, rfl⟩⟩⟩
    · intro m₁ nx h tk ⟨hnxe, _, _, _⟩ F1 N1
      rw [hnxe] at N1
      dsimp only
      k_steps
      exact hret 0 _ _ (by k_asm) (by k_asm)
  · have hb : b = false := by rw [← hen]; assumption
    subst hb
    exact hret 0 _ _ (by k_asm) (cb_drop (by k_asm) (by intro p hp; exact .tail _ (.tail _ hp)))

theorem ell_call4 : ∀ (w : World) (p : Program) (loose : List Str) (mean : ExcName → Option Value) (mg mb : Str → Option Value) (news : List (Addr × Obj)) (want got w0 wl : Str) (b : Bool) (t1 t2 : Tok), Txt.split want (Str.ofString "...") = [w0, Str.ofString "", Str.ofString "", Str.ofString "", Str.ofString "", wl] →
    (Builtin.Str.occurrences want (Str.ofString "...") 0 want.length 1).isEmpty = false → want.length + 2 ≤ sizeLine → got.length ≤ 1000 → w0.length ≤ 1000 → wl.length ≤ 1000 →
    (w0.length : Int) ≠ 0 → (wl.length : Int) ≠ 0 → Txt.startswith got w0 = true → Txt.endswith got wl = b → w0.length + wl.length ≤ got.length → find4 got (Str.ofString "") w0.length ((got.length : Int) - wl.length) = w0.length →
    Ctr w p loose mean mg mb 1 50 [.str want t1, .str got t2] news (RetV news (fun _ => .bool b)) := by
  dsimp only [Ctr, RetV]
  k_fill
  w_top off
  intro w p loose mean mg mb news want got w0 wl b t1 t2 hsp hocc hwz hgz hw0z hwlz hn0 hnl hst hen hlen hfind dp un gd cn cs a ccd cl outer A₀ base h₀ L m s Q E B F X N T hk hd1 hu hret
  refine wpAny_call ?_
  k_dflt cell_enter
  k_steps
  all_goals try (exfalso; omega)
  · rename Fr _ _ _ _ => lF
    rename News _ _ _ _ => lN
    have hb : b = true := by rw [← hen]; assumption
    subst hb
    refine list_loop (nx0 := news) (ellJ news w0 wl got) rfl lF (cb_drop lN (by intro p hp; exact .tail _ hp)) (by intro p hp; exact Nat.ne_of_lt ((‹∀ p ∈ news, p.1 < _›) p hp)) ?_ ?_ ?_
    · exact ⟨rfl, ⟨_, _, rfl, rfl⟩, ⟨_, rfl⟩, ⟨_, rfl⟩⟩
    · intro i v m₁ nx h tk own hi hnx hown ⟨hnxe, ⟨z, ta, hm1, hz⟩, ⟨tb, hm2⟩, ⟨tc, hm3⟩⟩ F1 N1
      obtain ⟨tv, rfl⟩ := ell_item hi (by simp)
      subst hz
      rw [map_at hm1, map_at hm2, map_at hm3] at F1
      rw [hnxe] at N1 hnx
      clear lF lN hnxe
      k_steps
      exact ⟨_, _, _, _, news, rfl, by assumption, by assumption, fun p hp => List.mem_append_left _ hp, fun p hp => List.mem_append_right _ hp, rfl, ⟨rfl, ⟨_, _, rfl, by simp⟩, ⟨_, rfl⟩, ⟨_, rfl⟩⟩⟩
    · intro m₁ nx h tk ⟨hnxe, _, _, _⟩ F1 N1
      rw [hnxe] at N1
      dsimp only
      k_steps
      exact hret 0 _ _ (by k_asm) (by k_asm)
  · have hb : b = false := by rw [← hen]; assumption
    subst hb
    exact hret 0 _ _ (by k_asm) (cb_drop (by k_asm) (by intro p hp; exact .tail _ (.tail _ hp)))

/-- what is asked of the two texts, as one test -/
def ellB (want got w0 wl : Str) (q : Nat) (b : Bool) : Bool :=
  decide (q < 5) && decide (Txt.split want (Str.ofString "...") = w0 :: (List.replicate q (Str.ofString "") ++ [wl])) && !(Builtin.Str.occurrences want (Str.ofString "...") 0 want.length 1).isEmpty && decide (want.length ≤ 1000) && decide (got.length ≤ 1000) && decide (w0.length ≤ 1000) && decide (wl.length ≤ 1000) &&
  decide ((w0.length : Int) ≠ 0) && decide ((wl.length : Int) ≠ 0) && Txt.startswith got w0 && (Txt.endswith got wl == b) && decide (w0.length + wl.length ≤ got.length) && decide (find4 got (Str.ofString "") w0.length ((got.length : Int) - wl.length) = w0.length)

theorem ell_call : ∀ (w : World) (p : Program) (loose : List Str) (mean : ExcName → Option Value) (mg mb : Str → Option Value) (news : List (Addr × Obj)) (want got w0 wl : Str) (q : Nat) (b : Bool) (t1 t2 : Tok), ellB want got w0 wl q b = true →
    Ctr w p loose mean mg mb 1 50 [.str want t1, .str got t2] news (RetV news (fun _ => .bool b)) := by
  intro w p loose mean mg mb news want got w0 wl q b t1 t2 h
  simp only [ellB, Bool.and_eq_true, decide_eq_true_eq, Bool.not_eq_true', beq_iff_eq] at h
  obtain ⟨⟨⟨⟨⟨⟨⟨⟨⟨⟨⟨⟨hq, h1⟩, h2⟩, h3⟩, h4⟩, h5⟩, h6⟩, h7⟩, h8⟩, h9⟩, h10⟩, h11⟩, h12⟩ := h
  have h3' : want.length + 2 ≤ sizeLine := by rw [sizeLine_eq]; omega
  match q, hq with
  | 0, _ => exact ell_call0 w p loose mean mg mb news want got w0 wl b t1 t2 h1 h2 h3' h4 h5 h6 h7 h8 h9 h10 h11 h12
  | 1, _ => exact ell_call1 w p loose mean mg mb news want got w0 wl b t1 t2 h1 h2 h3' h4 h5 h6 h7 h8 h9 h10 h11 h12
  | 2, _ => exact ell_call2 w p loose mean mg mb news want got w0 wl b t1 t2 h1 h2 h3' h4 h5 h6 h7 h8 h9 h10 h11 h12
  | 3, _ => exact ell_call3 w p loose mean mg mb news want got w0 wl b t1 t2 h1 h2 h3' h4 h5 h6 h7 h8 h9 h10 h11 h12
  | 4, _ => exact ell_call4 w p loose mean mg mb news want got w0 wl b t1 t2 h1 h2 h3' h4 h5 h6 h7 h8 h9 h10 h11 h12

end Mine

end

section
open PySem PySem.W PyProof.Rows PySem.Calls
namespace Mine
set_option maxRecDepth 100000
set_option maxHeartbeats 8000000

def wantS (w0 wl : Str) (d : Int) : Str := w0 ++ Str.ofString "..." ++ Txt.mul (Str.ofString ".") d ++ wl
def gotS (ws : List Str) : Str := Txt.join (Str.ofString ", ") ws

local macro_rules | `(tactic| walk_at "call ref") => `(tactic| (k_here; (with_reducible show wpAny _ _ (call (Value.ref 50) [Value.str _ _, Value.str _ _]) _ _ _); k_dflt (refine' ell_call _ _ _ _ _ _ _ _ _ _ _ _ _ _ _ ?k0 _ _ _ _ _ _ _ _ _ _ _ _ _ _ _ _ _ ?k1 ?k2 ?k3 ?k4 ?k5 ?kK ?kd ?ku ?_; (case k0 => assumption); (case k1 => k_asm); (case k2 => k_asm); (case k3 => k_asm); (case k4 => k_asm); (case k5 => k_asm); (case kK => first | exact rfl | assumption); (case kd => ktr_room); (case ku => ktr_units); intro t9 h9 tk9 F9 N9; (try dsimp only); (try k_fold))))

theorem whole3 : ∀ (w : World) (p : Program) (loose : List Str) (mean : ExcName → Option Value) (mg mb : Str → Option Value) (news : List (Addr × Obj)) (l : Addr) (ep : Nat) (w0 w1 w2 : Str) (u0 u1 u2 : Tok) (d : Int) (t1 : Tok) (wl : Str) (q : Nat) (b : Bool), 0 ≤ d → d ≤ 20 → w0.length ≤ 20 → w1.length ≤ 20 → w2.length ≤ 20 →
    ellB (wantS w0 w2 d) (gotS [w0, w1, w2]) w0 wl q b = true →
    Ctr w p loose mean mg mb 2 64 [.ref l, .int d t1] ((l, W.listOf #[.str w0 u0, .str w1 u1, .str w2 u2] ep) :: news) (RetV ((l, W.listOf #[.str w0 u0, .str w1 u1, .str w2 u2] ep) :: news) (fun _ => .bool b)) := by
  dsimp only [Ctr, RetV, wantS, gotS]
  k_fill
  w_top off
  intro w p loose mean mg mb news l ep w0 w1 w2 u0 u1 u2 d t1 wl q b hd0 hd20 hz0 hz1 hz2 hok dp un gd cn cs a ccd cl outer A₀ base h₀ L m s Q E B F X N T hk hd1 hu hret
  refine wpAny_call ?_
  k_dflt cell_enter
  k_steps
  exact hret 0 _ _ (by k_asm) (by k_asm)

theorem whole7 : ∀ (w : World) (p : Program) (loose : List Str) (mean : ExcName → Option Value) (mg mb : Str → Option Value) (news : List (Addr × Obj)) (l : Addr) (ep : Nat) (w0 w1 w2 w3 w4 w5 w6 : Str) (u0 u1 u2 u3 u4 u5 u6 : Tok) (d : Int) (t1 : Tok) (wl : Str) (q : Nat) (b : Bool), 0 ≤ d → d ≤ 20 → w0.length ≤ 20 → w1.length ≤ 20 → w2.length ≤ 20 → w3.length ≤ 20 → w4.length ≤ 20 → w5.length ≤ 20 → w6.length ≤ 20 →
    ellB (wantS w0 w6 d) (gotS [w0, w1, w2, w3, w4, w5, w6]) w0 wl q b = true →
    Ctr w p loose mean mg mb 2 64 [.ref l, .int d t1] ((l, W.listOf #[.str w0 u0, .str w1 u1, .str w2 u2, .str w3 u3, .str w4 u4, .str w5 u5, .str w6 u6] ep) :: news) (RetV ((l, W.listOf #[.str w0 u0, .str w1 u1, .str w2 u2, .str w3 u3, .str w4 u4, .str w5 u5, .str w6 u6] ep) :: news) (fun _ => .bool b)) := by
  dsimp only [Ctr, RetV, wantS, gotS]
  k_fill
  w_top off
  intro w p loose mean mg mb news l ep w0 w1 w2 w3 w4 w5 w6 u0 u1 u2 u3 u4 u5 u6 d t1 wl q b hd0 hd20 hz0 hz1 hz2 hz3 hz4 hz5 hz6 hok dp un gd cn cs a ccd cl outer A₀ base h₀ L m s Q E B F X N T hk hd1 hu hret
  refine wpAny_call ?_
  k_dflt cell_enter
  k_steps
  exact hret 0 _ _ (by k_asm) (by k_asm)
end Mine

end

section
open PySem PySem.W PyProof.Rows PySem.Calls
namespace Mine
/-- the law's own statements and scope, taken out of the row -/
def lawDef : List Stmt × Scope := match PySem.Challenge.rw_re0048_01.row.prog.main.body.getLast? with | some (.FunctionDef _ _ b _ _ _ sc _ _ _) => (b, sc) | _ => ([], {kind := .module, names := [], isGenerator := false, isCoroutine := false})
def lawAt (i : Nat) : Stmt := lawDef.1.getD i (.Pass ⟨0, 0, 0, 0⟩)
abbrev lawNm : Str := Str.ofString "law"
/-- the cells of the law's frame -/
structure Cs where
  (c1 c2 c3 c4 c5 c6 c7 : Addr)
abbrev Cs.cl (c : Cs) : List (Str × Addr) := [(Str.ofString "third", c.c7), (Str.ofString "second", c.c6), (Str.ofString "first", c.c5), (Str.ofString "places", c.c4), (Str.ofString "names", c.c3), (Str.ofString "heaps", c.c2), (Str.ofString "script", c.c1)]
/-- a statement of the law's, in its frame -/
abbrev Blk (w : World) (p : Program) (loose : List Str) (mean : ExcName → Option Value) (mg mb : Str → Option Value) (k : Nat) (c : Cs) (st : Stmt) (m : Str → Option Value) (news : List (Addr × Obj)) (Pre : Heap → Prop)
    (Ret : Heap → Addr → Shared → (Flow → Shared → Prop) → Prop) : Prop :=
  ∀ (dp un : Nat) (gd : Option (List Code)) (a : Addr) (ccd : Value) (outer : List Env) (A₀ : Around) (base h₀ : Heap) (L : Addr) (s : Shared) (Q : Flow → Shared → Prop) (E : Value → Shared → Prop),
    Below A₀ base outer h₀ → Fr h₀ L s.heap m → (hd.heap_39 w.params).In h₀ → News h₀ L s.heap news → Top p loose mean mg mb h₀ → Pre h₀ → dp + k < recursionLimit → un + 20 * k < cLine →
    PassesOwn (model PySem.Challenge.rw_re0048_01.row.prog w) (ktrTop dp un gd lawNm lawDef.2 L a ccd c.cl outer) (envX lawNm lawDef.2 L a ccd c.cl) E → Ret h₀ L s Q →
      wpAny (model PySem.Challenge.rw_re0048_01.row.prog w) (ktrTop dp un gd lawNm lawDef.2 L a ccd c.cl outer) (exec st (envX lawNm lawDef.2 L a ccd c.cl)) Q E s
end Mine

end

section
open PySem PySem.W PyProof.Rows PySem.Calls PySem.Spec
namespace Mine
section
variable {prog : Program} {w : World} {A : Around} {E : Value → Shared → Prop} {s : Shared} {h₀ : Heap} {L : Addr} {m : Str → Option Value} {env : Env}
  {elt : Expr} {x : Str} {scope : Scope} {cl : List (Str × Addr)} {S : List (Addr × Obj) → Prop} {P : Nat → Value → Prop} {Fin : List Value → List (Addr × Obj) → Prop} {news : List (Addr × Obj)}
/-- the turns of a comprehension whose elements leave the ledger as it was -/
theorem rest_all (R : Nat → Value → Prop) (n : Nat)
    (turn : ∀ i v I oI C oC D ys m₂ h tk (E' : Value → Shared → Prop), i < n → P i v → LCg.NsObj oC m₂ → m₂ x = some v → Fr h₀ L h m → News h₀ L h ((I, oI) :: (C, oC) :: (D, LCg.lst ys) :: news) → LCg.Off3 I C D news → ((@Ne Nat I C) ∧ (@Ne Nat I D) ∧ (@Ne Nat C D)) →
      wpAny (model prog w) A (eval elt (compEnvC scope cl C env)) (LCg.CompEnd h₀ L m { s with heap := h, toks := tk } I oI C oC D (LCg.lst ys) S (fun y news' => news' = news ∧ R i y)) E' { s with heap := h, toks := tk })
    (fin : ∀ ys, ys.length = n → (∀ i y, ys[i]? = some y → R i y) → Fin ys news) : LCg.CompRest prog w A h₀ L m env elt x scope cl s S P Fin n 0 [] news := by
  have key : ∀ k i ys, i + k = n → ys.length = i → (∀ j y, ys[j]? = some y → R j y) → LCg.CompRest prog w A h₀ L m env elt x scope cl s S P Fin k i ys news := by
    intro k
    induction k with
    | zero => intro i ys hi hl hR; exact LCg.CompRest.zero (fin ys (by omega) hR)
    | succ k ih =>
      intro i ys hi hl hR
      refine LCg.CompRest.succ fun v I oI C oC D m₂ h tk E' hv hC hx F N off ne => ?_
      refine wpAny_mono (turn i v I oI C oC D ys m₂ h tk E' (by omega) hv hC hx F N off ne) (fun y s₂ hy => ?_) fun _ _ e => e
      obtain ⟨h', tk', news', e1, F', N', o', hS, rfl, hRy⟩ := hy
      refine ⟨h', tk', news', e1, F', N', o', hS, ih (i + 1) (ys ++ [y]) (by omega) (by simp [hl]) fun j z hz => ?_⟩
      rw [List.getElem?_append] at hz
      split at hz
      · exact hR j z hz
      · rename_i hj
        have : j = i := by
          by_cases hji : j = i
          · exact hji
          · have : 1 ≤ j - ys.length := by omega
            rw [List.getElem?_eq_none (by simp; omega)] at hz; cases hz
        subst this; subst hl; simp at hz; subst hz; exact hRy
  exact key n 0 [] (by omega) rfl (by simp)
/-- the turns of a comprehension each of which makes one thing -/
theorem rest_grow (R : Nat → Value → (Addr × Obj) → Prop) (n : Nat)
    (turn : ∀ i v I oI C oC D ys tl m₂ h tk (E' : Value → Shared → Prop), i < n → P i v → LCg.NsObj oC m₂ → m₂ x = some v → Fr h₀ L h m → News h₀ L h ((I, oI) :: (C, oC) :: (D, LCg.lst ys) :: (news ++ tl)) → LCg.Off3 I C D (news ++ tl) → ((@Ne Nat I C) ∧ (@Ne Nat I D) ∧ (@Ne Nat C D)) →
      wpAny (model prog w) A (eval elt (compEnvC scope cl C env)) (LCg.CompEnd h₀ L m { s with heap := h, toks := tk } I oI C oC D (LCg.lst ys) S (fun y news' => ∃ p, news' = news ++ (tl ++ [p]) ∧ R i y p)) E' { s with heap := h, toks := tk })
    (fin : ∀ ys tl, ys.length = n → tl.length = n → (∀ i y p, ys[i]? = some y → tl[i]? = some p → R i y p) → Fin ys (news ++ tl)) : LCg.CompRest prog w A h₀ L m env elt x scope cl s S P Fin n 0 [] news := by
  have key : ∀ k i ys tl, i + k = n → ys.length = i → tl.length = i → (∀ j y p, ys[j]? = some y → tl[j]? = some p → R j y p) → LCg.CompRest prog w A h₀ L m env elt x scope cl s S P Fin k i ys (news ++ tl) := by
    intro k
    induction k with
    | zero => intro i ys tl hi hl ht hR; exact LCg.CompRest.zero (fin ys tl (by omega) (by omega) hR)
    | succ k ih =>
      intro i ys tl hi hl ht hR
      refine LCg.CompRest.succ fun v I oI C oC D m₂ h tk E' hv hC hx F N off ne => ?_
      refine wpAny_mono (turn i v I oI C oC D ys tl m₂ h tk E' (by omega) hv hC hx F N off ne) (fun y s₂ hy => ?_) fun _ _ e => e
      obtain ⟨h', tk', news', e1, F', N', o', hS, p, rfl, hRy⟩ := hy
      refine ⟨h', tk', news ++ (tl ++ [p]), e1, F', N', o', hS, ih (i + 1) (ys ++ [y]) (tl ++ [p]) (by omega) (by simp [hl]) (by simp [ht]) fun j z q hz hq => ?_⟩
      rw [List.getElem?_append] at hz hq
      rw [hl] at hz; rw [ht] at hq
      split at hz
      · rename_i hj; rw [if_pos hj] at hq; exact hR j z q hz hq
      · rename_i hj
        rw [if_neg hj] at hq
        have : j = i := by
          by_cases hji : j = i
          · exact hji
          · rw [List.getElem?_eq_none (by simp; omega)] at hz; cases hz
        subst this; simp at hz hq; subst hz; subst hq; exact hRy
  simpa using key n 0 [] [] (by omega) rfl rfl (by simp)
end
end Mine

end

section
open PySem PySem.W PyProof.Rows PySem.Calls
namespace Mine
local macro_rules | `(tactic| walk_at "nothing 0") => `(tactic| skip)
local macro_rules | `(tactic| walk_at "nothing 1") => `(tactic| skip)
local macro_rules | `(tactic| walk_at "nothing 2") => `(tactic| skip)
local macro_rules | `(tactic| walk_at "nothing 3") => `(tactic| skip)
local macro_rules | `(tactic| walk_at "nothing 4") => `(tactic| skip)
local macro_rules | `(tactic| walk_at "nothing 5") => `(tactic| skip)
local macro_rules | `(tactic| walk_at "nothing 6") => `(tactic| skip)
set_option maxRecDepth 100000
set_option maxHeartbeats 8000000

theorem ints_of_all : ∀ {l : List Value}, (∀ v ∈ l, ∃ a t, v = .int a t) → ∃ ms, IntsAre l ms
  | [], _ => ⟨[], .nil⟩
  | v :: l, h => by
    obtain ⟨a, t, rfl⟩ := h v (.head _)
    obtain ⟨ms, q⟩ := ints_of_all fun u hu => h u (.tail _ hu)
    exact ⟨a :: ms, .cons a t q⟩
theorem ints_all {l : List Value} {ns : List Int} (h : IntsAre l ns) : ∀ v ∈ l, ∃ a t, v = .int a t := by
  induction h with
  | nil => intro v hv; cases hv
  | cons n t _ ih => intro v hv; rcases List.mem_cons.mp hv with rfl | hv; exact ⟨n, t, rfl⟩; exact ih v hv
theorem pick_ints {vs : List Value} {ns : List Int} {lo hi st : Option Int} (h : IntsAre vs ns) : ∃ ms, IntsAre (slicePick vs.toArray lo hi st).toList ms := by
  refine ints_of_all fun v hv => ?_
  unfold slicePick at hv
  rw [List.mem_filterMap] at hv
  obtain ⟨i, _, hi⟩ := hv
  exact ints_all h v (List.mem_of_getElem? (by simpa using hi))
section
variable {prog : Program} {w : World} {A : Around} {E : Value → Shared → Prop} {s : Shared} {h₀ : Heap} {L l : Addr} {m : Str → Option Value} {news : List (Addr × Obj)} {value slice : PySem.Expr} {vs : List Value} {ns : List Int} {vl vu vk : Value} {lo hi st : Option Int} {ops : List Value} {Q : Value → Shared → Prop}
theorem slice3_ints (F : Fr h₀ L s.heap m) (N : News h₀ L s.heap news) (hl : s.heap.IsList l vs.toArray) (pl : IsPart vl lo) (pu : IsPart vu hi) (pk : IsPart vk st) (h0 : st ≠ some 0) (hi' : IntsAre vs ns)
    (h : ∀ D ws ms h', Fr h₀ L h' m → News h₀ L h' ((D, W.listOf (List.toArray ws) 0) :: news) → (∀ p ∈ news, p.1 < D) → IntsAre ws ms → Q (.ref D) { s with heap := h' })
    (hs : subscripted slice false (.ref l) (.ref s.heap.objs.size) = operate ops (getItem (.ref l) (.ref s.heap.objs.size))) (ht : ∀ r, letTemporaryGo value (.ref l) r = pure ()) (hz : vs.toArray.size ≤ sizeLine) :
    wpAny (model prog w) A (subscriptTail value slice (.ref l) (.ref s.heap.objs.size)) Q E { s with heap := s.heap.push { cls := .type "slice", data := .fields #[vl, vu, vk] } } := by
  obtain ⟨ms, hm⟩ := pick_ints (lo := lo) (hi := hi) (st := st) hi'
  exact kmk_slice3_lit F N hl pl pu pk h0 rfl (fun D h' F' N' l1 => h D _ ms h' F' N' l1 hm) hs ht hz
end
abbrev ledC (c1 c2 c3 c4 c5 c6 c7 : Addr) (o1 o2 o3 o4 o5 o6 o7 : Obj) : List (Addr × Obj) :=
  [(c7, o7), (c6, o6), (c5, o5), (c4, o4), (c3, o3), (c2, o2), (c1, o1)]
abbrev CsLt (c1 c2 c3 c4 c5 c6 c7 : Addr) : Prop := @LT.lt Nat _ c1 c2 ∧ @LT.lt Nat _ c2 c3 ∧ @LT.lt Nat _ c3 c4 ∧ @LT.lt Nat _ c4 c5 ∧ @LT.lt Nat _ c5 c6 ∧ @LT.lt Nat _ c6 c7

theorem st0 : ∀ (w : World) (p : Program) (loose : List Str) (mean : ExcName → Option Value) (mg mb : Str → Option Value) (c1 c2 c3 c4 c5 c6 c7 : Addr) (m : Str → Option Value) (o1 o2 o3 o4 o5 o6 o7 : Obj) (z2 : Option Value), o2.data = .cell z2 → CsLt c1 c2 c3 c4 c5 c6 c7 →
    Blk w p loose mean mg mb 1 ⟨c1, c2, c3, c4, c5, c6, c7⟩ (lawAt 0) m (ledC c1 c2 c3 c4 c5 c6 c7 o1 o2 o3 o4 o5 o6 o7) (fun _ => True) (fun h₀ L s Q =>
      ∀ (H : Addr) (o2' : Obj) (t0 t1 t2 t3 t4 t5 t6 : Tok) (ep : Nat) (h' : Heap) (tk' : Nat), Fr h₀ L h' m → News h₀ L h' ((H, W.listOf #[.int 0 t0, .int 16 t1, .int 23 t2, .int 12 t3, .int 19 t4, .int 8 t5, .int 24 t6] ep) :: ledC c1 c2 c3 c4 c5 c6 c7 o1 o2' o3 o4 o5 o6 o7) → o2'.data = .cell (some (.ref H)) → @LT.lt Nat _ c7 H →
        Q .next { s with heap := h', toks := tk' }) := by
  dsimp only [Blk, ledC, CsLt, Cs.cl]
  k_fill
  w_top off
  intro w p loose mean mg mb c1 c2 c3 c4 c5 c6 c7 m o1 o2 o3 o4 o5 o6 o7 z2 hz2 hlt dp un gd a ccd outer A₀ base h₀ L s Q E B F X N T _ hd1 hu hpo hret
  obtain ⟨hl1, hl2, hl3, hl4, hl5, hl6⟩ := hlt
  with_unfolding_all show wpAny _ _ (exec (Stmt.Assign _ _ _) _) _ _ _
  k_steps
  exact hret _ _ _ _ _ _ _ _ _ _ _ _ (by k_asm) (by k_asm) (by k_asm) (by omega)
end Mine

end

section
open PySem PySem.W PyProof.Rows PySem.Calls
namespace Mine
local macro_rules | `(tactic| walk_at "nothing 0") => `(tactic| skip)
local macro_rules | `(tactic| walk_at "nothing 1") => `(tactic| skip)
local macro_rules | `(tactic| walk_at "nothing 2") => `(tactic| skip)
local macro_rules | `(tactic| walk_at "nothing 3") => `(tactic| skip)
local macro_rules | `(tactic| walk_at "nothing 4") => `(tactic| skip)
local macro_rules | `(tactic| walk_at "nothing 5") => `(tactic| skip)
local macro_rules | `(tactic| walk_at "nothing 6") => `(tactic| skip)
local macro_rules | `(tactic| walk_at "nothing 7") => `(tactic| skip)
local macro_rules | `(tactic| walk_at "nothing 8") => `(tactic| skip)
local macro_rules | `(tactic| walk_at "nothing 9") => `(tactic| skip)
local macro_rules | `(tactic| walk_at "nothing 10") => `(tactic| skip)
local macro_rules | `(tactic| walk_at "nothing 11") => `(tactic| skip)
local macro_rules | `(tactic| walk_at "nothing 12") => `(tactic| skip)
local macro_rules | `(tactic| walk_at "nothing 13") => `(tactic| skip)
set_option maxRecDepth 100000
set_option maxHeartbeats 8000000

local macro_rules | `(tactic| walk_at "subscriptTail Name Slice ref ref") => `(tactic| (k_here; (with_reducible show wpAny _ _ (subscriptTail _ (PySem.Expr.Slice _ _ (some _) _) (Value.ref _) (Value.ref _)) _ _ _); k_dflt (refine' slice3_ints ?F ?N ?l ?p ?q ?k ?o ?e ?_ ?s ?t ?z; (case F => k_asm); (case N => k_asm); (case l => kmk_list); (case p => kmk_part); (case q => kmk_part); (case k => kmk_part); (case o => decide); (case e => assumption); (case s => with_unfolding_all rfl); (case t => kmk_pure); (case z => assumption)); intro D' ws' ms' h' F' N' l1 hI'; (try k_lt l1); (try k_sweep)))

def Num27 (_ : Nat) (y : Value) : Prop := ∃ x t, y = .int x t ∧ 0 ≤ x ∧ x < 27
theorem num27 {i : Nat} {x : Int} {t : Tok} : Num27 i (.int (Int.fmod x 27) t) := ⟨_, _, rfl, fmod_lo x (by decide), fmod_hi x (by decide)⟩
local macro_rules | `(tactic| walk_at "CompSrc") => `(tactic| (k_here; k_dflt (refine LCg.CompSrc.range (by rfl) (by k_asm) (by k_asm) (by assumption) (by decide) (n := 7) (by decide) (by exact Nat.le_of_ble_eq_true rfl) ?_); intro g'; refine rest_all Num27 7 ?_ ?_))
local macro_rules | `(tactic| walk_at "CompEnd") => `(tactic| (k_dflt (refine LCg.CompEnd.intro (by assumption) (by assumption) _ ?sub ?off ?S (And.intro rfl ?R); (case sub => kcf_all); (case off => assumption); (case S => exact True.intro); (case R => exact num27))))
theorem ints_with {P : Int → Prop} : ∀ {l : List Value}, (∀ v ∈ l, ∃ a t, v = .int a t ∧ P a) → ∃ ms, IntsAre l ms ∧ ∀ x ∈ ms, P x
  | [], _ => ⟨[], .nil, fun _ h => nomatch h⟩
  | v :: l, h => by
    obtain ⟨a, t, rfl, p⟩ := h v (.head _)
    obtain ⟨ms, q, r⟩ := ints_with fun u hu => h u (.tail _ hu)
    exact ⟨a :: ms, .cons a t q, fun x hx => by rcases List.mem_cons.mp hx with rfl | hx; exact p; exact r x hx⟩
theorem nums_of {ys : List Value} (hl : ys.length = 7) (h : ∀ i y, ys[i]? = some y → Num27 i y) : ∃ xs, IntsAre ys xs ∧ xs.length = 7 ∧ ∀ x ∈ xs, 0 ≤ x ∧ x < 27 := by
  obtain ⟨xs, h1, h2⟩ := ints_with (P := fun x => 0 ≤ x ∧ x < 27) (l := ys) fun v hv => by
    obtain ⟨i, hi, e⟩ := List.getElem_of_mem hv
    exact h i v (by rw [List.getElem?_eq_getElem hi, e])
  exact ⟨xs, h1, by rw [← h1.length, hl], h2⟩

theorem st1 : ∀ (w : World) (p : Program) (loose : List Str) (mean : ExcName → Option Value) (mg mb : Str → Option Value) (c1 c2 c3 c4 c5 c6 c7 : Addr) (m : Str → Option Value) (o1 o2 o3 o4 o5 o6 o7 : Obj) (H S : Addr) (t0 t1 t2 t3 t4 t5 t6 : Tok) (ep : Nat) (items : List Value) (ns : List Int), o1.data = .cell (some (.ref S)) → o2.data = .cell (some (.ref H)) → CsLt c1 c2 c3 c4 c5 c6 c7 → @LT.lt Nat _ c7 H → IntsAre items ns → items.toArray.size ≤ sizeLine →
    Blk w p loose mean mg mb 1 ⟨c1, c2, c3, c4, c5, c6, c7⟩ (lawAt 1) m ((H, W.listOf #[.int 0 t0, .int 16 t1, .int 23 t2, .int 12 t3, .int 19 t4, .int 8 t5, .int 24 t6] ep) :: ledC c1 c2 c3 c4 c5 c6 c7 o1 o2 o3 o4 o5 o6 o7) (fun h₀ => h₀.IsList S items.toArray) (fun h₀ L s Q =>
      ∀ (D : Addr) (vs : List Value) (xs : List Int) (h' : Heap) (tk' : Nat), Fr h₀ L h' (fun y => if y = Str.ofString "numbers" then some (.ref D) else m y) → 
        News h₀ L h' ((D, W.listOf vs.toArray vs.length) :: ledC c1 c2 c3 c4 c5 c6 c7 o1 o2 o3 o4 o5 o6 o7) → (@Ne Nat c7 D ∧ @Ne Nat c6 D ∧ @Ne Nat c5 D ∧ @Ne Nat c4 D ∧ @Ne Nat c3 D ∧ @Ne Nat c2 D ∧ @Ne Nat c1 D) →
        IntsAre vs xs → xs.length = 7 → (∀ x ∈ xs, 0 ≤ x ∧ x < 27) →
        Q .next { s with heap := h', toks := tk' }) := by
  dsimp only [Blk, ledC, CsLt, Cs.cl]
  k_fill
  w_top off
  intro w p loose mean mg mb c1 c2 c3 c4 c5 c6 c7 m o1 o2 o3 o4 o5 o6 o7 H S t0 t1 t2 t3 t4 t5 t6 ep items ns hd1 hd2 hlt hH hI hlen dp un gd a ccd outer A₀ base h₀ L s Q E B F X N T hS hdp hu hpo hret
  obtain ⟨hl1, hl2, hl3, hl4, hl5, hl6⟩ := hlt
  with_unfolding_all show wpAny _ _ (exec (Stmt.Assign _ _ _) _) _ _ _
  k_here
  k_dflt (refine LCg.Assign_ListComp_U (F₀ := by k_asm) (by rfl) (by with_unfolding_all rfl) (by with_unfolding_all rfl) (by decide) (by rfl) (by decide) (by rfl) (by rfl) (by rfl) ?_)
  k_dflt lcg_toSrc
  · intro i v I oI C oC D ys m₂ h tk E' hi hv hC hx F' N' off ne
    obtain ⟨tv, rfl⟩ := hv
    have off2 := off
    simp only [LCg.Off3, and_true] at off2
    k_steps
  · intro ys hl hR
    obtain ⟨xs, h1, h2, h3⟩ := nums_of hl hR
    unfold LCg.FinA
    intro D h' tk' F' N' off
    simp only [LCg.Off1, and_true] at off
    refine hret D ys xs h' tk' F' (cb_drop N' ?_) off.2 h1 h2 h3
    intro p hp
    rcases List.mem_cons.mp hp with rfl | hp
    · exact .head _
    · exact .tail _ (.tail _ hp)
end Mine

end

section
open PySem PySem.W PyProof.Rows PySem.Calls
namespace Mine
set_option maxRecDepth 100000
set_option maxHeartbeats 8000000
abbrev Off7 (c1 c2 c3 c4 c5 c6 c7 D : Addr) : Prop := (@Ne Nat c7 D ∧ @Ne Nat c6 D ∧ @Ne Nat c5 D ∧ @Ne Nat c4 D ∧ @Ne Nat c3 D ∧ @Ne Nat c2 D ∧ @Ne Nat c1 D)
local macro_rules | `(tactic| walk_at "call ref") => `(tactic| (k_here; (with_reducible show wpAny _ _ (call (Value.ref 28) [Value.float _ _, Value.float _ _, Value.float _ _]) _ _ _); k_dflt (refine' hls_call _ _ _ _ _ _ _ _ _ _ _ _ _ _ _ _ _ _ _ _ _ _ _ _ _ _ _ _ _ _ ?k1 ?k2 ?k3 ?k4 ?k5 ?kK ?kd ?ku ?_; (case k1 => k_asm); (case k2 => k_asm); (case k3 => k_asm); (case k4 => k_asm); (case k5 => k_asm); (case kK => first | exact rfl | assumption); (case kd => ktr_room); (case ku => ktr_units); intro a9 t9 u9 v9 h9 tk9 F9 N9 l9; (try k_lt l9); (try dsimp only); (try k_fold))))
local macro_rules | `(tactic| walk_at "CompSrc") => `(tactic| (k_here; k_dflt (refine LCg.CompSrc.ledger (by rfl) (by k_asm) (by k_asm) (List.Mem.head _) (by assumption) ?_); intro g'))
local macro_rules | `(tactic| walk_at "CompEnd") => `(tactic| fail)
theorem int_at {vs : List Value} {ns : List Int} (h : IntsAre vs ns) {i : Nat} {v : Value} (hv : vs[i]? = some v) : ∃ x t, v = .int x t ∧ ns[i]? = some x := by
  obtain ⟨k, t, e, hk⟩ := IntsAre.at h i v hv
  exact ⟨k, t, e, hk⟩
theorem nine_q {x : Int} (h : 0 ≤ x ∧ x < 27) : 0 ≤ Int.fdiv x 9 ∧ Int.fdiv x 9 ≤ 2 := by
  rw [Int.fdiv_eq_ediv_of_nonneg _ (by decide)]; omega

abbrev hX (x : Int) : UInt64 := Float64.ofFrac (decide (x.fmod 3 < 0) != decide ((3 : Int) < 0)) (x.fmod 3).natAbs (Int.natAbs 3)
abbrev lX (x : Int) : UInt64 := Float64.ofFrac (decide ((2 : Int) ^ (x.fdiv 9).toNat < 0) != decide ((8 : Int) < 0)) ((2 : Int) ^ (x.fdiv 9).toNat).natAbs (Int.natAbs 8)
abbrev sX (x : Int) : UInt64 := Float64.ofFrac (decide ((1 : Int) < 0) != decide ((2 : Int) ^ (x.fdiv 9).toNat < 0)) (Int.natAbs 1) ((2 : Int) ^ (x.fdiv 9).toNat).natAbs
def LampOf (x : Int) : UInt64 × UInt64 × UInt64 := lampF (hX x) (lX x) (sX x)
theorem noInf_all : ((List.range 27).all fun n => !Float64.isInf (hX n) && !Float64.isInf (lX n) && !Float64.isInf (sX n)) = true := by decide +kernel
theorem noInf {x : Int} (h : 0 ≤ x ∧ x < 27) : Float64.isInf (hX x) = false ∧ Float64.isInf (lX x) = false ∧ Float64.isInf (sX x) = false := by
  have q := List.all_eq_true.mp noInf_all x.toNat (List.mem_range.mpr (by omega))
  rw [show ((x.toNat : Nat) : Int) = x by omega] at q
  simp only [Bool.and_eq_true, Bool.not_eq_true'] at q
  exact ⟨q.1.1, q.1.2, q.2⟩
theorem pow_no {n : Nat} (h : (2 : Int) ^ n = 0) : False := by
  have := Int.pow_pos (n := 2) (m := n) (by decide)
  omega
theorem inf_no {b : Bool} (h : b = false) (h' : b = true) : False := by rw [h] at h'; cases h'
abbrev lampO (x : Int) (t1 t2 t3 : Tok) : Obj := tupO [.float (LampOf x).1 t1, .float (LampOf x).2.1 t2, .float (LampOf x).2.2 t3]
def LampR (xs : List Int) (c1 c2 c3 c4 c5 c6 c7 : Addr) (i : Nat) (y : Value) (p : Addr × Obj) : Prop :=
  ∃ x t1 t2 t3, xs[i]? = some x ∧ y = .ref p.1 ∧ p.2 = lampO x t1 t2 t3 ∧ Off7 c1 c2 c3 c4 c5 c6 c7 p.1
def LampsAre (xs : List Int) (c1 c2 c3 c4 c5 c6 c7 : Addr) (rs : List Value) (tl : List (Addr × Obj)) : Prop :=
  rs.length = xs.length ∧ tl.length = xs.length ∧ ∀ i y p, rs[i]? = some y → tl[i]? = some p → LampR xs c1 c2 c3 c4 c5 c6 c7 i y p
theorem off3_snoc {I C D a : Addr} {o : Obj} {news tl : List (Addr × Obj)} (h : LCg.Off3 I C D (news ++ tl)) (ha : a ≠ I ∧ a ≠ C ∧ a ≠ D) : LCg.Off3 I C D (news ++ (tl ++ [(a, o)])) := by
  refine LCg.Off3.of fun p hp => ?_
  rw [← List.append_assoc] at hp
  rcases List.mem_append.mp hp with hp | hp
  · exact h.mem p hp
  · rw [List.mem_singleton.mp hp]; exact ha
theorem off7_gt {c1 c2 c3 c4 c5 c6 c7 a : Addr} (h : CsLt c1 c2 c3 c4 c5 c6 c7) (ha : @LT.lt Nat _ c7 a) : Off7 c1 c2 c3 c4 c5 c6 c7 a := by
  obtain ⟨h1, h2, h3, h4, h5, h6⟩ := h
  refine ⟨?_, ?_, ?_, ?_, ?_, ?_, ?_⟩ <;> omega
theorem st2 : ∀ (w : World) (p : Program) (loose : List Str) (mean : ExcName → Option Value) (mg mb : Str → Option Value) (c1 c2 c3 c4 c5 c6 c7 : Addr) (m : Str → Option Value) (o1 o2 o3 o4 o5 o6 o7 : Obj) (D : Addr) (vs : List Value) (xs : List Int), CsLt c1 c2 c3 c4 c5 c6 c7 → Off7 c1 c2 c3 c4 c5 c6 c7 D → IntsAre vs xs → xs.length = 7 → (∀ x ∈ xs, 0 ≤ x ∧ x < 27) →
    Blk w p loose mean mg mb 2 ⟨c1, c2, c3, c4, c5, c6, c7⟩ (lawAt 2) (fun y => if y = Str.ofString "numbers" then some (.ref D) else m y) ((D, W.listOf vs.toArray vs.length) :: ledC c1 c2 c3 c4 c5 c6 c7 o1 o2 o3 o4 o5 o6 o7) (fun _ => True) (fun h₀ L s Q =>
      ∀ (LA : Addr) (rs : List Value) (tl : List (Addr × Obj)) (h' : Heap) (tk' : Nat), Fr h₀ L h' (fun y => if y = Str.ofString "lamps" then some (.ref LA) else if y = Str.ofString "numbers" then some (.ref D) else m y) → 
        News h₀ L h' ((LA, W.listOf rs.toArray rs.length) :: (((D, W.listOf vs.toArray vs.length) :: ledC c1 c2 c3 c4 c5 c6 c7 o1 o2 o3 o4 o5 o6 o7) ++ tl)) → Off7 c1 c2 c3 c4 c5 c6 c7 LA → LampsAre xs c1 c2 c3 c4 c5 c6 c7 rs tl →
        Q .next { s with heap := h', toks := tk' }) := by
  dsimp only [Blk, ledC, CsLt, Cs.cl, Off7]
  k_fill
  w_top off
  intro w p loose mean mg mb c1 c2 c3 c4 c5 c6 c7 m o1 o2 o3 o4 o5 o6 o7 D vs xs hlt hD hI hlen hb dp un gd a ccd outer A₀ base h₀ L s Q E B F X N T _ hdp hu hpo hret
  obtain ⟨hl1, hl2, hl3, hl4, hl5, hl6⟩ := hlt
  with_unfolding_all show wpAny _ _ (exec (Stmt.Assign _ _ _) _) _ _ _
  k_here
  k_dflt (refine LCg.Assign_ListComp_U (F₀ := by k_asm) (by rfl) (by with_unfolding_all rfl) (by with_unfolding_all rfl) (by decide) (by rfl) (by decide) (by rfl) (by rfl) (by rfl) ?_)
  have hsz : vs.toArray.size ≤ sizeLine := by
    rw [List.size_toArray, hI.length, hlen]; exact Nat.le_of_ble_eq_true rfl
  walk1
  walk1
  refine rest_grow (LampR xs c1 c2 c3 c4 c5 c6 c7) _ ?_ ?_
  · intro i v I oI C oC D' ys tl m₂ h tk E' hi hv hC hx F' N' off ne
    obtain ⟨x, tv, rfl, hxi⟩ := int_at hI (by simpa using hv)
    have hxb := hb x (List.mem_of_getElem? hxi)
    obtain ⟨hq0, hq2⟩ := nine_q hxb
    have off0 := off
    simp only [List.cons_append, List.nil_append] at N' off
    have off2 := off
    simp only [LCg.Off3, and_true] at off2
    k_steps
    · exact (inf_no (noInf hxb).1 (by with_reducible assumption)).elim
    · exact (inf_no (noInf hxb).2.1 (by with_reducible assumption)).elim
    · exact (pow_no (by with_reducible assumption)).elim
    rename Fr _ _ _ _ => F9
    rename News _ _ _ _ => N9
    refine LCg.CompEnd.intro F9 N9 (((D, W.listOf vs.toArray vs.length) :: ledC c1 c2 c3 c4 c5 c6 c7 o1 o2 o3 o4 o5 o6 o7) ++ (tl ++ [(?a9, lampO x ?u9 ?v9 ?w9)])) ?sub ?off ?S ?R
    case sub =>
      intro p hp
      rcases List.mem_cons.mp hp with rfl | hp
      · exact .tail _ (.head _)
      rcases List.mem_cons.mp hp with rfl | hp
      · exact .tail _ (.tail _ (.head _))
      rcases List.mem_cons.mp hp with rfl | hp
      · exact .tail _ (.tail _ (.tail _ (.head _)))
      rw [← List.append_assoc] at hp
      rcases List.mem_append.mp hp with hp | hp
      · exact .tail _ (.tail _ (.tail _ (.tail _ hp)))
      · rw [List.mem_singleton.mp hp]; exact .head _
    case off => exact off3_snoc off0 ⟨by k_ne, by k_ne, by k_ne⟩
    case S => exact Or.inr ⟨_, .head _, rfl, _, rfl⟩
    case R => exact ⟨_, rfl, x, _, _, _, hxi, rfl, rfl, off7_gt ⟨hl1, hl2, hl3, hl4, hl5, hl6⟩ (by dsimp only; omega)⟩
  · intro ys tl hl ht hR
    unfold LCg.FinA
    intro LA h' tk' F' N' off
    simp only [List.cons_append, LCg.Off1] at off
    refine hret LA ys tl h' tk' F' N' ⟨off.2.1, off.2.2.1, off.2.2.2.1, off.2.2.2.2.1, off.2.2.2.2.2.1, off.2.2.2.2.2.2.1, off.2.2.2.2.2.2.2.1⟩ ⟨?_, ?_, hR⟩
    · rw [hl, List.size_toArray, hI.length]
    · rw [ht, List.size_toArray, hI.length]
end Mine

end

section
open PySem PySem.W PyProof.Rows PySem.Calls
namespace Mine
local macro_rules | `(tactic| walk_at "nothing 0") => `(tactic| skip)
local macro_rules | `(tactic| walk_at "nothing 1") => `(tactic| skip)
local macro_rules | `(tactic| walk_at "nothing 2") => `(tactic| skip)
local macro_rules | `(tactic| walk_at "nothing 3") => `(tactic| skip)
local macro_rules | `(tactic| walk_at "nothing 4") => `(tactic| skip)
local macro_rules | `(tactic| walk_at "nothing 5") => `(tactic| skip)
local macro_rules | `(tactic| walk_at "nothing 6") => `(tactic| skip)
set_option maxRecDepth 100000
set_option maxHeartbeats 8000000
def dot (x : Int) : Int := Int.fmod (Int.fdiv x 3) 3
def DotR (xs : List Int) (i : Nat) (y : Value) : Prop := ∃ x t, xs[i]? = some x ∧ y = .int (dot x) t
theorem dotR {xs : List Int} {i : Nat} {x : Int} {t : Tok} (h : xs[i]? = some x) : DotR xs i (.int (Int.fmod (Int.fdiv x 3) 3) t) := ⟨x, t, h, rfl⟩
theorem ints_dots {f : Int → Int} : ∀ {xs : List Int} {ys : List Value}, ys.length = xs.length → (∀ (i : Nat) (y : Value), ys[i]? = some y → ∃ x t, xs[i]? = some x ∧ y = Value.int (f x) t) → IntsAre ys (xs.map f)
  | [], [], _, _ => .nil
  | [], _ :: _, h, _ => nomatch h
  | _ :: _, [], h, _ => nomatch h
  | x :: xs, y :: ys, h, r => by
    obtain ⟨x', t, h1, rfl⟩ := r 0 y rfl
    simp at h1
    subst h1
    exact .cons _ t (ints_dots (by simpa using h) fun i y hy => r (i + 1) y (by simpa using hy))
local macro_rules | `(tactic| walk_at "CompSrc") => `(tactic| (k_here; k_dflt (refine LCg.CompSrc.ledger (by rfl) (by k_asm) (by k_asm) (List.Mem.tail _ (List.Mem.head _)) (by assumption) ?_); intro g'))
local macro_rules | `(tactic| walk_at "CompEnd") => `(tactic| (k_dflt (refine LCg.CompEnd.intro (by assumption) (by assumption) _ ?sub ?off ?S (And.intro rfl ?R); (case sub => kcf_all); (case off => assumption); (case S => exact Or.inr ⟨_, List.Mem.tail _ (List.Mem.head _), rfl, _, rfl⟩); (case R => exact dotR (by assumption)))))
theorem st3 : ∀ (w : World) (p : Program) (loose : List Str) (mean : ExcName → Option Value) (mg mb : Str → Option Value) (c1 c2 c3 c4 c5 c6 c7 : Addr) (m : Str → Option Value) (o1 o2 o3 o4 o5 o6 o7 : Obj) (D : Addr) (vs : List Value) (xs : List Int) (LA : Addr) (rs : List Value) (tl : List (Addr × Obj)), CsLt c1 c2 c3 c4 c5 c6 c7 → Off7 c1 c2 c3 c4 c5 c6 c7 D → Off7 c1 c2 c3 c4 c5 c6 c7 LA → IntsAre vs xs → xs.length = 7 →
    Blk w p loose mean mg mb 1 ⟨c1, c2, c3, c4, c5, c6, c7⟩ (lawAt 3) (fun y => if y = Str.ofString "numbers" then some (.ref D) else m y) ((LA, W.listOf rs.toArray rs.length) :: (((D, W.listOf vs.toArray vs.length) :: ledC c1 c2 c3 c4 c5 c6 c7 o1 o2 o3 o4 o5 o6 o7) ++ tl)) (fun _ => True) (fun h₀ L s Q =>
      ∀ (DA : Addr) (ds : List Value) (h' : Heap) (tk' : Nat), Fr h₀ L h' (fun y => if y = Str.ofString "dots" then some (.ref DA) else if y = Str.ofString "numbers" then some (.ref D) else m y) → 
        News h₀ L h' ((DA, W.listOf ds.toArray ds.length) :: (LA, W.listOf rs.toArray rs.length) :: (((D, W.listOf vs.toArray vs.length) :: ledC c1 c2 c3 c4 c5 c6 c7 o1 o2 o3 o4 o5 o6 o7) ++ tl)) → Off7 c1 c2 c3 c4 c5 c6 c7 DA → IntsAre ds (xs.map dot) →
        Q .next { s with heap := h', toks := tk' }) := by
  dsimp only [Blk, ledC, CsLt, Cs.cl, Off7]
  k_fill
  w_top off
  intro w p loose mean mg mb c1 c2 c3 c4 c5 c6 c7 m o1 o2 o3 o4 o5 o6 o7 D vs xs LA rs tl hlt hD hLA hI hlen dp un gd a ccd outer A₀ base h₀ L s Q E B F X N T _ hdp hu hpo hret
  obtain ⟨hl1, hl2, hl3, hl4, hl5, hl6⟩ := hlt
  with_unfolding_all show wpAny _ _ (exec (Stmt.Assign _ _ _) _) _ _ _
  simp only [List.cons_append, List.nil_append] at N hret
  have hsz : vs.toArray.size ≤ sizeLine := by
    rw [List.size_toArray, hI.length, hlen]; exact Nat.le_of_ble_eq_true rfl
  k_here
  k_dflt (refine LCg.Assign_ListComp_U (F₀ := by k_asm) (by rfl) (by with_unfolding_all rfl) (by with_unfolding_all rfl) (by decide) (by rfl) (by decide) (by rfl) (by rfl) (by rfl) ?_)
  walk1
  walk1
  refine rest_all (DotR xs) _ ?_ ?_
  · intro i v I oI C oC D' ys m₂ h tk E' hi hv hC hx F' N' off ne
    obtain ⟨x, tv, rfl, hxi⟩ := int_at hI (by simpa using hv)
    k_steps
  · intro ys hl hR
    unfold LCg.FinA
    intro DA h' tk' F' N' off
    simp only [LCg.Off1] at off
    refine hret DA ys h' tk' F' N' ⟨off.2.2.1, off.2.2.2.1, off.2.2.2.2.1, off.2.2.2.2.2.1, off.2.2.2.2.2.2.1, off.2.2.2.2.2.2.2.1, off.2.2.2.2.2.2.2.2.1⟩ (ints_dots ?_ hR)
    rw [hl, List.size_toArray, hI.length]

local macro_rules | `(tactic| walk_at "call ref") => `(tactic| (k_here; (with_reducible show wpAny _ _ (call (Value.ref 43) [Value.int _ _]) _ _ _); k_dflt (refine' pretty_call _ _ _ _ _ _ _ _ _ ?k0 _ _ _ _ _ _ _ _ _ _ _ _ _ _ _ _ _ ?k1 ?k2 ?k3 ?k4 ?k5 ?kK ?kd ?ku ?_; (case k0 => decide); (case k1 => k_asm); (case k2 => k_asm); (case k3 => k_asm); (case k4 => k_asm); (case k5 => k_asm); (case kK => first | exact rfl | assumption); (case kd => ktr_room); (case ku => ktr_units); intro t9 h9 tk9 F9 N9; (try dsimp only); (try k_fold))))
local macro_rules | `(tactic| walk_at "call builtin:str.split") => `(tactic| (k_here; k_dflt (refine' KSpl.split1 ?k1 ?k2 ?k3 ?_ ?k4; (case k1 => k_asm); (case k2 => k_asm); (case k3 => decide +kernel); (case k4 => assumption); intro D' l' h' k' e' a' F' N' l1; (try k_lt l1); (rw [‹Txt.split _ _ = _›] at e'); kspl_open e'; (simp only [strValues, List.map_cons, List.map_nil] at N' a'))))
local macro_rules | `(tactic| walk_at "storeName") => `(tactic| (k_here; k_dflt (refine' storeX_C ?F ?N ?c ?U ?d ?_ ?hk ?hx; (case F => k_asm); (case N => k_asm); (case c => rfl); (case U => (repeat' (first | exact UpdF.head (by assumption) | refine' UpdF.tail (by k_ne) ?_))); (case d => k_asm); (case hk => rfl); (case hx => rfl); intro h' o' F' N' d')))
theorem split127 : Txt.split (prettyS 127) (Str.ofString ", ") = [Str.ofString "OPTIMIZED", Str.ofString "NEWLOCALS", Str.ofString "VARARGS", Str.ofString "VARKEYWORDS", Str.ofString "NESTED", Str.ofString "GENERATOR", Str.ofString "NOFREE"] := by decide +kernel
theorem size127 : (prettyS 127).length + 2 ≤ sizeLine := by decide +kernel
abbrev namesO (t0 t1 t2 t3 t4 t5 t6 : Tok) : Obj := W.listOf #[.str (Str.ofString "OPTIMIZED") t0, .str (Str.ofString "NEWLOCALS") t1, .str (Str.ofString "VARARGS") t2, .str (Str.ofString "VARKEYWORDS") t3, .str (Str.ofString "NESTED") t4, .str (Str.ofString "GENERATOR") t5, .str (Str.ofString "NOFREE") t6] 0
theorem ne_of_allLt {D : Addr} {r : List (Addr × Obj)} (h : AllLt D r) : ∀ p ∈ r, p.1 ≠ D := by
  induction r with
  | nil => intro p hp; cases hp
  | cons q r ih => intro p hp; rcases List.mem_cons.mp hp with rfl | hp; exact Nat.ne_of_lt h.1; exact ih h.2 p hp
theorem st4 : ∀ (w : World) (p : Program) (loose : List Str) (mean : ExcName → Option Value) (mg mb : Str → Option Value) (c1 c2 c3 c4 c5 c6 c7 : Addr) (m : Str → Option Value) (o1 o2 o3 o4 o5 o6 o7 : Obj) (rest : List (Addr × Obj)) (z3 : Option Value), o3.data = .cell z3 → CsLt c1 c2 c3 c4 c5 c6 c7 → (∀ p ∈ rest, p.1 ≠ c3) →
    Blk w p loose mean mg mb 2 ⟨c1, c2, c3, c4, c5, c6, c7⟩ (lawAt 4) m ((c7, o7) :: (c6, o6) :: (c5, o5) :: (c4, o4) :: (c3, o3) :: rest) (fun _ => True) (fun h₀ L s Q =>
      ∀ (NA : Addr) (t0 t1 t2 t3 t4 t5 t6 : Tok) (o3' : Obj) (h' : Heap) (tk' : Nat), Fr h₀ L h' m → News h₀ L h' ((NA, namesO t0 t1 t2 t3 t4 t5 t6) :: (c7, o7) :: (c6, o6) :: (c5, o5) :: (c4, o4) :: (c3, o3') :: rest) →
        o3'.data = .cell (some (.ref NA)) → @LT.lt Nat _ c7 NA → (∀ p ∈ rest, p.1 ≠ NA) →
        Q .next { s with heap := h', toks := tk' }) := by
  dsimp only [Blk, ledC, CsLt, Cs.cl, Off7]
  k_fill
  w_top off
  intro w p loose mean mg mb c1 c2 c3 c4 c5 c6 c7 m o1 o2 o3 o4 o5 o6 o7 rest z3 hz3 hlt hrest dp un gd a ccd outer A₀ base h₀ L s Q E B F X N T _ hdp hu hpo hret
  obtain ⟨hl1, hl2, hl3, hl4, hl5, hl6⟩ := hlt
  have hs1 := split127
  have hs2 := size127
  with_unfolding_all show wpAny _ _ (exec (Stmt.Assign _ _ _) _) _ _ _
  k_steps
  · exact hret _ _ _ _ _ _ _ _ _ _ _ (by k_asm) (by k_asm) (by k_asm) (by omega) (ne_of_allLt (by with_reducible simp only [*]))
end Mine

end

section
open PySem PySem.W PyProof.Rows PySem.Calls PySem.Spec
namespace Mine
set_option maxRecDepth 100000
def Hold (P : Prop) : Prop := P
def nm (i : Nat) : Str := flagNames.getD i Str.empty
theorem nm_inj {i j : Nat} (hi : i < 7) (hj : j < 7) (h : nm i = nm j) : i = j := by
  have key : ((List.range 7).all fun i => (List.range 7).all fun j => !decide (nm i = nm j) || decide (i = j)) = true := by decide +kernel
  have q := List.all_eq_true.mp (List.all_eq_true.mp key i (List.mem_range.mpr hi)) j (List.mem_range.mpr hj)
  simpa [h] using q
def FKn (v : Value) (k : Str) : Prop := ∃ (i : Nat) (t : Tok), v = Value.int (i : Int) t ∧ k = nm i
def FVn (v y : Value) : Prop := ∃ (i : Nat) (t t' : Tok), v = Value.int (i : Int) t ∧ y = Value.int (i : Int) t'
theorem stored_new {kvs : List (Str × Value)} {k : Str} {v : Value} (h : k ∉ kvs.map (·.1)) : stored kvs k v = kvs ++ [(k, v)] := by
  unfold stored
  rw [if_neg]
  intro q
  obtain ⟨p, hp, e⟩ := List.any_eq_true.mp q
  exact h (List.mem_map.mpr ⟨p, hp, of_decide_eq_true e⟩)
theorem stored_places {l : List Value} {kvs : List (Str × Value)} (h : StoredAll FKn FVn l kvs) : l.length ≤ 7 → (∀ (j : Nat) v, l[j]? = some v → ∃ t, v = Value.int (j : Int) t) →
    kvs.length = l.length ∧ ∀ i, i < l.length → ∃ t, kvs[i]? = some (nm i, Value.int (i : Int) t) := by
  induction h with
  | nil => intro _ _; exact ⟨rfl, fun i hi => absurd hi (Nat.not_lt_zero i)⟩
  | @snoc l kvs v k y _ hk hv ih =>
    intro hl hP
    rw [List.length_append, List.length_singleton] at hl
    obtain ⟨e1, e2⟩ := ih (by omega) fun j u hj => hP j u (by rw [List.getElem?_append_left (by
      have := (List.getElem?_eq_some_iff.mp hj).1; exact this)]; exact hj)
    obtain ⟨t, rfl⟩ := hP l.length v (by simp)
    obtain ⟨i, t1, hi, rfl⟩ := hk
    obtain ⟨i', t2, t3, hi', rfl⟩ := hv
    have q1 : i = l.length := by cases hi; rfl
    have q2 : i' = l.length := by cases hi'; rfl
    subst q1; subst q2
    have hnot : nm l.length ∉ kvs.map (·.1) := by
      intro hm
      obtain ⟨p, hp, e⟩ := List.mem_map.mp hm
      obtain ⟨j, hj, e'⟩ := List.getElem_of_mem hp
      obtain ⟨t', ht'⟩ := e2 j (by omega)
      rw [List.getElem?_eq_getElem hj, e'] at ht'
      cases ht'
      have := nm_inj (by omega) (by omega) e
      omega
    rw [stored_new hnot]
    refine ⟨by simp [e1], fun i hi => ?_⟩
    rw [List.length_append, List.length_singleton] at hi
    by_cases hlt : i < l.length
    · obtain ⟨t', ht'⟩ := e2 i hlt
      exact ⟨t', by rw [List.getElem?_append_left (by omega)]; exact ht'⟩
    · have : i = l.length := by omega
      subst this
      exact ⟨t3, by rw [← e1]; simp⟩
def Places (kvs : List (Str × Value)) : Prop := kvs.length = 7 ∧ ∀ i, i < 7 → ∃ t, valueAt kvs (nm i) = some (Value.int (i : Int) t)
theorem places_of {kvs : List (Str × Value)} (h1 : kvs.length = 7) (h2 : ∀ i, i < 7 → ∃ t, kvs[i]? = some (nm i, Value.int (i : Int) t)) : Places kvs := by
  refine ⟨h1, fun i hi => ?_⟩
  obtain ⟨t, ht⟩ := h2 i hi
  refine ⟨t, ?_⟩
  unfold valueAt
  have hf : kvs.find? (fun kv => decide (kv.1 = nm i)) = some (nm i, Value.int (i : Int) t) := by
    rw [List.find?_eq_some_iff_getElem]
    refine ⟨by simp, i, by omega, (List.getElem?_eq_some_iff.mp ht).2, fun j hj => ?_⟩
    obtain ⟨t', ht'⟩ := h2 j (by omega)
    have e := (List.getElem?_eq_some_iff.mp ht').2
    simp only [e, Bool.not_eq_true', decide_eq_false_iff_not]
    intro q
    have := nm_inj (by omega) hi q
    omega
  rw [hf]; rfl

section
variable {prog : Program} {w : World} {A : Around} {E : Value → Shared → Prop} {s : Shared} {h₀ : Heap} {L : Addr} {m : Str → Option Value} {news : List (Addr × Obj)} {env : Env}
theorem dict7 {kx vx iter : Expr} {x : Str} {px : Pos} {scope : Scope} {cl : List (Str × Addr)} {pos : Pos} {Q : Value → Shared → Prop}
    (hh : A.handled = none) (hclos : closureFor scope env = pure cl) (hcell : ∀ y ∈ scope.names, y.2 ≠ .cell) (hkind : scope.kind = .function)
    (hnames : ∀ y ∈ scope.names, y.2 = .local → scope.names.lookup y.1 = some .local) (hx : scope.names.lookup x = some .local)
    (h : wpAny (model prog w) A (eval iter env) (fun xv s₁ => Hold (∃ r t u v, xv = .ref r ∧ IsRange s₁.heap r 0 7 1 t u v ∧ Fr h₀ L s₁.heap m ∧ News h₀ L s₁.heap news ∧ h₀.NoLimit ∧
      (∀ C (i : Nat) t s₃ m₃ E', i < 7 → Fr h₀ L s₃.heap m → News h₀ L s₃.heap news → s₃.heap.Ns (compEnvC scope cl C env).locals m₃ → m₃ x = some (.int (i : Int) t) →
        wpAny (model prog w) A (eval kx (compEnvC scope cl C env)) (fun key s₄ => (∃ t', key = .str (nm i) t') ∧ Keeps s₃ s₄) E' s₃) ∧
      (∀ C (i : Nat) t s₃ m₃ E', i < 7 → Fr h₀ L s₃.heap m → News h₀ L s₃.heap news → s₃.heap.Ns (compEnvC scope cl C env).locals m₃ → m₃ x = some (.int (i : Int) t) →
        wpAny (model prog w) A (eval vx (compEnvC scope cl C env)) (fun y s₄ => (∃ t', y = .int (i : Int) t') ∧ Keeps s₃ s₄) E' s₃) ∧
      (∀ D o kvs h' tk, Fr h₀ L h' m → News h₀ L h' ((D, o) :: news) → (∀ p ∈ news, p.1 < D) → (D == sysModules) = false → o.IsDictOf (PySem.strKind prog w) kvs → Places kvs → Q (.ref D) { s₁ with heap := h', toks := tk }))) E s)
    (hs : ∀ x, foldedSetIterable iter env x = pure x) :
    wpAny (model prog w) A (eval (.DictComp kx vx [⟨.Name x px, iter, [], 0⟩] scope pos) env) Q E s := by
  rw [arm_eval_DictComp]
  refine wpAny_comprehension_free (use := none) rfl hs hclos hkind hnames (wpAny_mono h (fun xv s₁ h₁ => ?_) fun _ _ e => e)
  unfold Hold at h₁
  obtain ⟨r, t, u, v, rfl, hr, F, N, hbig, hkey, hval, hQ⟩ := h₁
  refine wpAny_pyIter_range hr (by decide) ?_
  have hIL : L ≠ s₁.heap.objs.size := Nat.ne_of_lt F.ns.lt
  have hI0 : h₀.get? s₁.heap.objs.size = none := next_is_new F
  have keepI : ∀ b o, s₁.heap.get? b = some o → b ∉ [s₁.heap.objs.size] := fun b o e hm => by
    rw [List.mem_singleton.mp hm] at e; exact Nat.lt_irrefl _ (Heap.lt_size e)
  generalize hH1 : s₁.heap.push { cls := .type "range_iterator", data := .fields #[rawInt 0, rawInt (Builtin.Range.rangeSize 0 7 1), rawInt 1] } = H1
  have up1 : ∀ b o, s₁.heap.get? b = some o → H1.get? b = some o := fun b o e => hH1 ▸ Heap.get?_push_of_some _ e
  have sz1 : H1.objs.size = s₁.heap.objs.size + 1 := by rw [← hH1, Heap.size_push]
  have st1 : IsRangeIter H1 s₁.heap.objs.size (0 + ((0 : Nat) : Int) * 1) ((7 : Nat) - ((0 : Nat) : Int)) 1 := by
    rw [← hH1]; exact Heap.get?_push_size _ rfl
  refine wpAny_newObj_type (wpAny_newFunctionEnv hcell (by intro y hy; simp at hy) (fun h₁ hns₁ hsb₁ => ?_) hkind)
  dsimp only at hns₁ hsb₁ ⊢
  have hnew : (H1.push { cls := .type "dict", dict := none, data := .dict #[] }).DictOf (PySem.strKind prog w) H1.objs.size [] := Heap.DictOf.new H1
  generalize hH2 : H1.push { cls := .type "dict", dict := none, data := .dict #[] } = H2 at hns₁ hsb₁ hnew ⊢
  have sz2 : H2.objs.size = s₁.heap.objs.size + 2 := by rw [← hH2, Heap.size_push, sz1]
  have up2 : ∀ b o, H1.get? b = some o → H2.get? b = some o := fun b o e => hH2 ▸ Heap.get?_push_of_some _ e
  have hD1 : H1.objs.size ≠ H2.objs.size := by rw [sz2, sz1]; omega
  have nb2 : ∀ b, @LT.lt Nat _ b s₁.heap.objs.size → b ≠ H2.objs.size := fun b hb => by
    have q : @Ne Nat b H2.objs.size := by rw [sz2]; omega
    exact q
  have nb1 : ∀ b, @LT.lt Nat _ b s₁.heap.objs.size → b ≠ H1.objs.size := fun b hb => by
    have q : @Ne Nat b H1.objs.size := by rw [sz1]; omega
    exact q
  have nb3 : ∀ b, @LT.lt Nat _ b H1.objs.size → b ≠ H2.objs.size := fun b hb => by
    rw [sz1] at hb
    have q : @Ne Nat b H2.objs.size := by rw [sz2]; omega
    exact q
  have up3 : ∀ b o, H1.get? b = some o → h₁.get? b = some o := fun b o e => hsb₁.extBut b o (nb3 b (Heap.lt_size e)) (Heap.get?_push_of_some _ (up2 b o e))
  have st3 : IsRangeIter h₁ s₁.heap.objs.size (0 + ((0 : Nat) : Int) * 1) ((7 : Nat) - ((0 : Nat) : Int)) 1 := up3 _ _ st1
  have hacc : h₁.DictOf (PySem.strKind prog w) H1.objs.size [] := hnew.at fun o e => hsb₁.extBut _ _ hD1 (Heap.get?_push_of_some _ e)
  have W : Walks prog w A s₁.heap.objs.size [s₁.heap.objs.size] [s₁.heap.objs.size] 7 (fun i v => i < 7 ∧ ∃ t, v = .int (0 + i * 1) t)
      (fun i h => IsRangeIter h s₁.heap.objs.size (0 + (i : Nat) * 1) (((7 : Nat) : Int) - (i : Nat)) 1) := (Walks.range hh _ 0 1 7).bound
  have e0 : ∀ i : Nat, ((0 : Int) + (i : Int) * 1) = (i : Int) := fun i => by omega
  have old : ∀ {h' : Heap}, (∀ b o, b ≠ H2.objs.size → b ∉ [s₁.heap.objs.size] → b ≠ H1.objs.size → h₁.get? b = some o → h'.get? b = some o) → ∀ b o, s₁.heap.get? b = some o → h'.get? b = some o := fun hk b o e => by
    have hb := Heap.lt_size e
    exact hk b o (nb2 b hb) (keepI b o e) (nb1 b hb) (up3 b o (up1 b o e))
  have loop : ∀ s₃ : Shared, s₃ = { s₁ with heap := h₁, toks := s₁.toks + ([] : List (Str × Value)).length } →
      codeAny (model prog w) A (.compLoop (.DictComp kx vx [⟨.Name x px, iter, [], 0⟩] scope pos) 0 (.ref s₁.heap.objs.size) (.ref H1.objs.size) (compEnvC scope cl H2.objs.size env))
        (compPost (model prog w) A E none Q (.ref H1.objs.size) H2.objs.size) s₃ := by
    rintro s₃ rfl
    refine codeAny_compLoop_walkD (hsz := by decide) (knd := PySem.strKind prog w) (cenv := compEnvC scope cl H2.objs.size env) W (fun _ => true) FKn FVn (lookup_relabel_local hx) (by simp [compEnvC, relabel, hkind]) hD1
      (by show H1.objs.size ∉ [s₁.heap.objs.size]; rw [sz1, List.mem_singleton]; omega) (by show H2.objs.size ∉ [s₁.heap.objs.size]; rw [sz2, List.mem_singleton]; omega) st3 hacc hns₁ ?_ ?_ ?_ ?_
    · intro i v s₂ m₂ _ _ _ _
      exact wpAny_pure ⟨rfl, s₂.heap, s₂.toks, rfl, fun _ _ e => e⟩
    · intro i v s₂ m₂ hP _ hn hm hk
      obtain ⟨hi, t, rfl⟩ := hP
      rw [e0] at hm
      have k := old hk
      refine wpAny_mono (hkey _ i t s₂ m₂ _ hi (F.keeps k) (N.grown k) hn hm) (fun key s₄ h₄ => ?_) fun _ _ e => e
      obtain ⟨⟨t', rfl⟩, hK⟩ := h₄
      exact ⟨⟨nm i, strKind_is _ _ _ _, i, t, by rw [e0], rfl⟩, hK⟩
    · intro i v s₂ m₂ hP _ hn hm hk
      obtain ⟨hi, t, rfl⟩ := hP
      rw [e0] at hm
      have k := old hk
      refine wpAny_mono (hval _ i t s₂ m₂ _ hi (F.keeps k) (N.grown k) hn hm) (fun y s₄ h₄ => ?_) fun _ _ e => e
      obtain ⟨⟨t', rfl⟩, hK⟩ := h₄
      exact ⟨⟨i, t, t', by rw [e0], rfl⟩, hK⟩
    · intro h' tk m' kvs vs hn hD hlen hP hF hk
      have k := old hk
      have hvs : vs.filter (fun _ => true) = vs := List.filter_eq_self.mpr fun _ _ => rfl
      rw [hvs] at hF
      obtain ⟨p1, p2⟩ := stored_places hF (by omega) fun j v hj => by
        obtain ⟨_, t, rfl⟩ := hP j v hj
        exact ⟨t, by rw [e0]⟩
      refine ⟨m', hn, fun h'' hs'' => ?_⟩
      have k2 : ∀ b o, s₁.heap.get? b = some o → h''.get? b = some o := fun b o e => hs''.extBut b o (nb2 b (Heap.lt_size e)) (k b o e)
      obtain ⟨o, ho, hdo⟩ := Heap.dictOf_iff.mp (hD.extBut hs''.extBut hD1)
      have hDL : H1.objs.size ≠ L := Ne.symm (nb1 L F.ns.lt)
      have hD0 : h₀.get? H1.objs.size = none := by
        cases q : h₀.get? H1.objs.size with
        | none => rfl
        | some o' => exact absurd rfl (nb1 _ (Heap.lt_size (F.keep _ _ q)))
      refine hQ H1.objs.size o kvs h'' tk (F.keeps k2) (fun p hp => ?_) (fun p hp => ?_) ?_ hdo (places_of (by omega) fun i hi => p2 i (by omega))
      · rcases List.mem_cons.mp hp with rfl | hp
        · exact ⟨ho, hDL, hD0⟩
        · exact N.grown k2 p hp
      · rw [sz1]; exact Nat.lt_succ_of_lt (Heap.lt_size (N p hp).1)
      · refine beq_eq_false_iff_ne.mpr ?_
        rw [sz1]
        exact Nat.ne_of_gt (Nat.lt_succ_of_lt (Nat.lt_trans (modules_low hbig) (Nat.lt_of_le_of_lt F.above F.ns.lt)))
  exact codeAny_compStart_dict (loop _ rfl) (W.self 0 _ _ _ st3 (loop _ rfl))
end
end Mine

end

section
open PySem PySem.W PyProof.Rows PySem.Calls
namespace Mine
local macro_rules | `(tactic| walk_at "nothing 0") => `(tactic| skip)
local macro_rules | `(tactic| walk_at "nothing 1") => `(tactic| skip)
local macro_rules | `(tactic| walk_at "nothing 2") => `(tactic| skip)
local macro_rules | `(tactic| walk_at "nothing 3") => `(tactic| skip)
local macro_rules | `(tactic| walk_at "nothing 4") => `(tactic| skip)
local macro_rules | `(tactic| walk_at "nothing 5") => `(tactic| skip)
local macro_rules | `(tactic| walk_at "nothing 6") => `(tactic| skip)
local macro_rules | `(tactic| walk_at "nothing 7") => `(tactic| skip)
local macro_rules | `(tactic| walk_at "nothing 8") => `(tactic| skip)
local macro_rules | `(tactic| walk_at "nothing 9") => `(tactic| skip)
local macro_rules | `(tactic| walk_at "nothing 10") => `(tactic| skip)
local macro_rules | `(tactic| walk_at "nothing 11") => `(tactic| skip)
local macro_rules | `(tactic| walk_at "nothing 12") => `(tactic| skip)
local macro_rules | `(tactic| walk_at "nothing 13") => `(tactic| skip)
set_option maxRecDepth 100000
set_option maxHeartbeats 8000000
local macro_rules | `(tactic| walk_at "storeName") => `(tactic| (k_here; k_dflt (refine' storeX_C ?F ?N ?c ?U ?d ?_ ?hk ?hx; (case F => k_asm); (case N => k_asm); (case c => rfl); (case U => (repeat' (first | exact UpdF.head (by assumption) | refine' UpdF.tail (by k_ne) ?_))); (case d => k_asm); (case hk => rfl); (case hx => rfl); intro h' o' F' N' d')))
local macro_rules | `(tactic| walk_at "eval Name") => `(tactic| (k_here; (with_reducible show wpAny _ _ (eval (Expr.Name _ _) (compEnvC _ _ _ _)) _ _ _); k_dflt (refine ldVarK (by assumption) (by assumption) ?_ (by rfl) (by rfl) (by decide))))
theorem st5 : ∀ (w : World) (p : Program) (loose : List Str) (mean : ExcName → Option Value) (mg mb : Str → Option Value) (c1 c2 c3 c4 c5 c6 c7 : Addr) (m : Str → Option Value) (o1 o2 o3 o4 o5 o6 o7 : Obj) (rest : List (Addr × Obj)) (z4 : Option Value) (NA : Addr) (t0 t1 t2 t3 t4 t5 t6 : Tok), o3.data = .cell (some (.ref NA)) → o4.data = .cell z4 → CsLt c1 c2 c3 c4 c5 c6 c7 → @LT.lt Nat _ c7 NA → (∀ p ∈ rest, p.1 ≠ c4) →
    Blk w p loose mean mg mb 2 ⟨c1, c2, c3, c4, c5, c6, c7⟩ (lawAt 5) m ((NA, namesO t0 t1 t2 t3 t4 t5 t6) :: (c7, o7) :: (c6, o6) :: (c5, o5) :: (c3, o3) :: (c4, o4) :: rest) (fun _ => True) (fun h₀ L s Q =>
      ∀ (PA : Addr) (po : Obj) (kvs : List (Str × Value)) (o4' : Obj) (h' : Heap) (tk' : Nat), Fr h₀ L h' m → News h₀ L h' ((PA, po) :: (NA, namesO t0 t1 t2 t3 t4 t5 t6) :: (c7, o7) :: (c6, o6) :: (c5, o5) :: (c3, o3) :: (c4, o4') :: rest) →
        o4'.data = .cell (some (.ref PA)) → @LT.lt Nat _ c7 PA → (∀ p ∈ rest, p.1 ≠ PA) → (PA == sysModules) = false → po.IsDictOf (PySem.strKind PySem.Challenge.rw_re0048_01.row.prog w) kvs → Places kvs →
        Q .next { s with heap := h', toks := tk' }) := by
  dsimp only [Blk, Cs.cl, CsLt, namesO]
  k_fill
  w_top off
  intro w p loose mean mg mb c1 c2 c3 c4 c5 c6 c7 m o1 o2 o3 o4 o5 o6 o7 rest z4 NA t0 t1 t2 t3 t4 t5 t6 hd3 hz4 hlt hNA hrest dp un gd a ccd outer A₀ base h₀ L s Q E B F X N T _ hdp hu hpo hret
  obtain ⟨hl1, hl2, hl3, hl4, hl5, hl6⟩ := hlt
  with_unfolding_all show wpAny _ _ (exec (Stmt.Assign _ _ _) _) _ _ _
  walk1
  k_dflt (refine dict7 (h₀ := h₀) (L := L) (m := m) (news := (NA, namesO t0 t1 t2 t3 t4 t5 t6) :: (c7, o7) :: (c6, o6) :: (c5, o5) :: (c3, o3) :: (c4, o4) :: rest) (by rfl) (by with_unfolding_all rfl) (by decide) (by rfl) (by decide) (by rfl) ?_ (by intro _; with_unfolding_all rfl))
  k_steps
  unfold Hold
  refine ⟨_, _, _, _, rfl, by assumption, by assumption, by assumption, T.nolimit, ?_, ?_, ?_⟩
  · intro C i t s₃ m₃ E' hi F' N' hn hm
    have hc : i = 0 ∨ i = 1 ∨ i = 2 ∨ i = 3 ∨ i = 4 ∨ i = 5 ∨ i = 6 := by omega
    rcases hc with rfl | rfl | rfl | rfl | rfl | rfl | rfl
    all_goals k_steps
    all_goals exact ⟨_, _, rfl, fun _ _ e => e⟩
  · intro C i t s₃ m₃ E' hi F' N' hn hm
    k_steps
    exact ⟨_, _, rfl, fun _ _ e => e⟩
  · intro D o kvs h' tk F' N' lt lo hd hP
    k_lt lt
    k_steps
    exact hret D o kvs _ _ _ (by k_asm) (by k_asm) (by k_asm) (by omega) (ne_of_allLt (by with_reducible simp only [*])) lo hd hP
end Mine

end

section
open PySem PySem.W PyProof.Rows PySem.Calls
namespace Mine
set_option maxRecDepth 100000
set_option maxHeartbeats 8000000
theorem len7 {prog : Program} {w : World} {A : Around} {E : Value → Shared → Prop} {s : Shared} {h₀ : Heap} {L d : Addr} {news : List (Addr × Obj)} {o : Obj} {kvs : List (Str × Value)} {Q : Value → Shared → Prop} (N : News h₀ L s.heap news) (hp : (d, o) ∈ news) (hd : o.IsDictOf (PySem.strKind prog w) kvs) (lo : (d == sysModules) = false) (hlen : kvs.length = 7)
    (h : Q (.int 7 (s.toks + 1)) { s with toks := s.toks + 1 + 1 }) : wpAny (model prog w) A (call (.builtin "len") [.ref d]) Q E s := kda_len N hp hd lo (by omega) (by rw [hlen]; exact h)
local macro_rules | `(tactic| walk_at "call builtin:len") => `(tactic| (k_here; k_dflt (refine len7 (by k_asm) (by k_mem) (by assumption) (by assumption) (by assumption) ?_)))
theorem st6 : ∀ (w : World) (p : Program) (loose : List Str) (mean : ExcName → Option Value) (mg mb : Str → Option Value) (c1 c2 c3 c4 c5 c6 c7 : Addr) (m : Str → Option Value) (o3 o4 : Obj) (rest : List (Addr × Obj)) (NA : Addr) (t0 t1 t2 t3 t4 t5 t6 : Tok) (PA : Addr) (po : Obj) (kvs : List (Str × Value)), o3.data = .cell (some (.ref NA)) → o4.data = .cell (some (.ref PA)) → (PA == sysModules) = false → po.IsDictOf (PySem.strKind PySem.Challenge.rw_re0048_01.row.prog w) kvs → kvs.length = 7 →
    Blk w p loose mean mg mb 2 ⟨c1, c2, c3, c4, c5, c6, c7⟩ (lawAt 6) m ((PA, po) :: (NA, namesO t0 t1 t2 t3 t4 t5 t6) :: (c3, o3) :: (c4, o4) :: rest) (fun _ => True) (fun h₀ L s Q =>
      ∀ (h' : Heap) (tk' : Nat), Fr h₀ L h' m → News h₀ L h' ((PA, po) :: (NA, namesO t0 t1 t2 t3 t4 t5 t6) :: (c3, o3) :: (c4, o4) :: rest) →
        Q .next { s with heap := h', toks := tk' }) := by
  dsimp only [Blk, Cs.cl, CsLt, namesO]
  k_fill
  w_top off
  intro w p loose mean mg mb c1 c2 c3 c4 c5 c6 c7 m o3 o4 rest NA t0 t1 t2 t3 t4 t5 t6 PA po kvs hd3 hd4 lo hdict hlen dp un gd a ccd outer A₀ base h₀ L s Q E B F X N T _ hdp hu hpo hret
  with_unfolding_all show wpAny _ _ (exec (Stmt.If _ _ _ _) _) _ _ _
  k_steps
  exact hret _ _ (by k_asm) (by k_asm)
theorem st7 : ∀ (w : World) (p : Program) (loose : List Str) (mean : ExcName → Option Value) (mg mb : Str → Option Value) (c1 c2 c3 c4 c5 c6 c7 : Addr) (m : Str → Option Value) (rest : List (Addr × Obj)),
    Blk w p loose mean mg mb 2 ⟨c1, c2, c3, c4, c5, c6, c7⟩ (lawAt 7) m rest (fun _ => True) (fun h₀ L s Q =>
      ∀ (TH : Addr) (h' : Heap) (tk' : Nat), Fr h₀ L h' (fun y => if y = Str.ofString "threes" then some (.ref TH) else m y) → News h₀ L h' ((TH, W.listOf #[] 0) :: rest) → (∀ p ∈ rest, p.1 ≠ TH) →
        Q .next { s with heap := h', toks := tk' }) := by
  dsimp only [Blk, Cs.cl, CsLt, namesO]
  k_fill
  w_top off
  intro w p loose mean mg mb c1 c2 c3 c4 c5 c6 c7 m rest dp un gd a ccd outer A₀ base h₀ L s Q E B F X N T _ hdp hu hpo hret
  with_unfolding_all show wpAny _ _ (exec (Stmt.Assign _ _ _) _) _ _ _
  k_steps
  exact hret _ _ _ (by k_asm) (by k_asm) (fun p hp => Nat.ne_of_lt ((‹∀ p ∈ rest, p.1 < _›) p hp))
theorem st9 : ∀ (w : World) (p : Program) (loose : List Str) (mean : ExcName → Option Value) (mg mb : Str → Option Value) (c1 c2 c3 c4 c5 c6 c7 : Addr) (m : Str → Option Value) (rest : List (Addr × Obj)),
    Blk w p loose mean mg mb 2 ⟨c1, c2, c3, c4, c5, c6, c7⟩ (lawAt 9) m rest (fun _ => True) (fun h₀ L s Q =>
      ∀ (TH : Addr) (h' : Heap) (tk' : Nat), Fr h₀ L h' (fun y => if y = Str.ofString "sixes" then some (.ref TH) else m y) → News h₀ L h' ((TH, W.listOf #[] 0) :: rest) → (∀ p ∈ rest, p.1 ≠ TH) →
        Q .next { s with heap := h', toks := tk' }) := by
  dsimp only [Blk, Cs.cl, CsLt, namesO]
  k_fill
  w_top off
  intro w p loose mean mg mb c1 c2 c3 c4 c5 c6 c7 m rest dp un gd a ccd outer A₀ base h₀ L s Q E B F X N T _ hdp hu hpo hret
  with_unfolding_all show wpAny _ _ (exec (Stmt.Assign _ _ _) _) _ _ _
  k_steps
  exact hret _ _ _ (by k_asm) (by k_asm) (fun p hp => Nat.ne_of_lt ((‹∀ p ∈ rest, p.1 < _›) p hp))
end Mine

end

section
open PySem PySem.W PyProof.Rows PySem.Calls PySem.Spec
namespace Mine
set_option maxRecDepth 100000
/-- all the triples of places, falling -/
def trip : List (Nat × Nat × Nat) := (List.range 7).flatMap fun a => (List.range a).flatMap fun b => (List.range b).map fun c => (a, b, c)
def num3 (p : Nat × Nat × Nat) : Int := 2 ^ p.1 + 2 ^ p.2.1 + 2 ^ p.2.2
def words3 (p : Nat × Nat × Nat) : List Str := [nm p.2.2, nm p.2.1, nm p.1]
theorem split3_all : (trip.all fun p => decide (Txt.split (prettyS (num3 p)) (Str.ofString ", ") = words3 p) && decide ((prettyS (num3 p)).length ≤ 1000) && decide (0 < num3 p ∧ num3 p < 128)) = true := by decide +kernel
def dotsS (d : Nat) : Str := Txt.mul (Str.ofString ".") (d : Int)
def ell3 (p : Nat × Nat × Nat) (d : Nat) : Bool := ellB (wantS (nm p.2.2) (nm p.1) (d : Int)) (gotS (words3 p)) (nm p.2.2) (dotsS (d % 3) ++ nm p.1) (d / 3) (d % 3 == 0)
end Mine

end

section
open PySem PySem.W PyProof.Rows PySem.Calls PySem.Spec
namespace Mine
theorem ell3_0 : (trip.all fun p => ell3 p 0) = true := by decide +kernel
theorem ell3_1 : (trip.all fun p => ell3 p 1) = true := by decide +kernel
theorem ell3_2 : (trip.all fun p => ell3 p 2) = true := by decide +kernel
theorem ell3_3 : (trip.all fun p => ell3 p 3) = true := by decide +kernel
theorem ell3_4 : (trip.all fun p => ell3 p 4) = true := by decide +kernel
theorem ell3_5 : (trip.all fun p => ell3 p 5) = true := by decide +kernel
theorem ell3_6 : (trip.all fun p => ell3 p 6) = true := by decide +kernel

def ell7 (d : Nat) : Bool := ellB (wantS (nm 0) (nm 6) (d : Int)) (gotS [nm 0, nm 1, nm 2, nm 3, nm 4, nm 5, nm 6]) (nm 0) (dotsS (d % 3) ++ nm 6) (d / 3) (d % 3 == 0)
theorem ell7_all : ((List.range 13).all ell7) = true := by decide +kernel
theorem ell3_all {p : Nat × Nat × Nat} (hp : p ∈ trip) {d : Nat} (hd : d ≤ 6) : ell3 p d = true := by
  match d, hd with
  | 0, _ => exact List.all_eq_true.mp ell3_0 p hp
  | 1, _ => exact List.all_eq_true.mp ell3_1 p hp
  | 2, _ => exact List.all_eq_true.mp ell3_2 p hp
  | 3, _ => exact List.all_eq_true.mp ell3_3 p hp
  | 4, _ => exact List.all_eq_true.mp ell3_4 p hp
  | 5, _ => exact List.all_eq_true.mp ell3_5 p hp
  | 6, _ => exact List.all_eq_true.mp ell3_6 p hp
end Mine

end

section
open PySem PySem.W PyProof.Rows PySem.Calls
namespace Mine
def forBody : Stmt → List Stmt | .For _ _ b _ _ => b | _ => []
def ifBody : Stmt → List Stmt | .If _ b _ _ => b | _ => []
def nth (l : List Stmt) (i : Nat) : Stmt := l.getD i (.Pass ⟨0, 0, 0, 0⟩)
def forB : Stmt := nth (forBody (lawAt 8)) 0
def forC : Stmt := nth (forBody forB) 0
def bodyC : List Stmt := forBody forC
def bAt (i : Nat) : Stmt := nth bodyC i
def tAt (i : Nat) : Stmt := nth (ifBody (bAt 4)) i
def kAt (i : Nat) : Stmt := nth (forBody (lawAt 10)) i
def uAt (i : Nat) : Stmt := nth (ifBody (kAt 0)) i
def hAt (i : Nat) : Stmt := nth (forBody (lawAt 11)) i
end Mine

end

section
namespace Mine
set_option maxRecDepth 100000
inductive Poly : Nat → (Int → Int → Int → Int) → Prop
  | const (n : Nat) (c : Int) : Poly n (fun _ _ _ => c)
  | add {n : Nat} {f g : Int → Int → Int → Int} : Poly n f → Poly n g → Poly n (fun s d x => f s d x + g s d x)
  | lin {n : Nat} {f : Int → Int → Int → Int} (a b c e : Int) : Poly n f → Poly (n + 1) (fun s d x => (a * s + b * d + c * x + e) * f s d x)
theorem Poly.smul {n : Nat} {f : Int → Int → Int → Int} (k : Int) (h : Poly n f) : Poly n (fun s d x => k * f s d x) := by
  induction h with
  | const n c => exact .const n (k * c)
  | add _ _ i j =>
    have := Poly.add i j
    refine cast (congrArg (Poly _) ?_) this
    funext s d x; rw [Int.mul_add]
  | lin a b c e _ i =>
    have := Poly.lin a b c e i
    refine cast (congrArg (Poly _) ?_) this
    funext s d x; rw [Int.mul_left_comm]
theorem Poly.shift {n : Nat} {f : Int → Int → Int → Int} (p q r : Int) (h : Poly n f) : Poly n (fun s d x => f (s + p) (d + q) (x + r)) := by
  induction h with
  | const n c => exact .const n c
  | add _ _ i j => exact .add i j
  | lin a b c e _ i =>
    have := Poly.lin a b c (e + (a * p + b * q + c * r)) i
    refine cast (congrArg (Poly _) ?_) this
    funext s d x
    congr 1
    rw [Int.mul_add, Int.mul_add, Int.mul_add]; omega
theorem Poly.flat {n : Nat} {f : Int → Int → Int → Int} (h : Poly n f) : n = 0 → ∀ s d x s' d' x', f s d x = f s' d' x' := by
  induction h with
  | const n c => intros; rfl
  | add _ _ i j => intro e s d x s' d' x'; dsimp only; rw [i e s d x s' d' x', j e s d x s' d' x']
  | lin a b c e _ _ => intro e; cases e
def dif (g : Int × Int × Int) (f : Int → Int → Int → Int) : Int → Int → Int → Int := fun s d x => f s d x - f (s + g.1) (d + g.2.1) (x + g.2.2)
theorem Poly.dif0 {f : Int → Int → Int → Int} (g : Int × Int × Int) (h : Poly 0 f) : dif g f = fun _ _ _ => 0 := by
  funext s d x
  unfold dif
  rw [h.flat rfl (s + g.1) (d + g.2.1) (x + g.2.2) s d x]; omega
theorem Poly.dif {m : Nat} {f : Int → Int → Int → Int} (g : Int × Int × Int) (h : Poly m f) : ∀ n, m = n + 1 → Poly n (dif g f) := by
  induction h with
  | const m c =>
    intro n _
    refine cast (congrArg (Poly _) ?_) (Poly.const n 0)
    funext s d x; unfold Mine.dif; dsimp only; omega
  | add _ _ i j =>
    intro n e
    refine cast (congrArg (Poly _) ?_) (Poly.add (i n e) (j n e))
    funext s d x; unfold Mine.dif; dsimp only; omega
  | @lin m f a b c e hf i =>
    intro n en
    have em : m = n := by omega
    subst em
    have h2 : Poly m (fun s d x => (-(a * g.1 + b * g.2.1 + c * g.2.2)) * f (s + g.1) (d + g.2.1) (x + g.2.2)) := (hf.shift _ _ _).smul _
    have h1 : Poly m (fun s d x => (a * s + b * d + c * x + e) * Mine.dif g f s d x) := by
      cases m with
      | zero =>
        rw [hf.dif0 g]
        refine cast (congrArg (Poly _) ?_) (Poly.const 0 0)
        funext s d x; rw [Int.mul_zero]
      | succ k => exact .lin a b c e (i k rfl)
    refine cast (congrArg (Poly _) ?_) (Poly.add h1 h2)
    funext s d x
    unfold Mine.dif
    dsimp only
    generalize f (s + g.1) (d + g.2.1) (x + g.2.2) = F'
    generalize f s d x = F
    rw [Int.mul_sub, Int.mul_add a s, Int.mul_add b d, Int.mul_add c x]
    generalize a * s = u1
    generalize b * d = u2
    generalize c * x = u3
    generalize a * g.1 = v1
    generalize b * g.2.1 = v2
    generalize c * g.2.2 = v3
    have e1 : u1 + v1 + (u2 + v2) + (u3 + v3) + e = (u1 + u2 + u3 + e) + (v1 + v2 + v3) := by omega
    rw [e1, Int.add_mul (u1 + u2 + u3 + e) (v1 + v2 + v3) F', Int.neg_mul]
    omega
def alt : List (Int × Int × Int) → (Int → Int → Int → Int) → Int → Int → Int → Int
  | [], f => f
  | g :: l, f => alt l (dif g f)
theorem alt_zero : ∀ (l : List (Int × Int × Int)) (s d x : Int), alt l (fun _ _ _ => 0) s d x = 0
  | [], _, _, _ => rfl
  | g :: l, s, d, x => by
    have e : dif g (fun _ _ _ => (0 : Int)) = fun _ _ _ => 0 := by funext s d x; rfl
    show alt l (dif g fun _ _ _ => 0) s d x = 0
    rw [e]; exact alt_zero l s d x
theorem alt_poly : ∀ (l : List (Int × Int × Int)) {n : Nat} {f : Int → Int → Int → Int}, Poly n f → n < l.length → ∀ s d x, alt l f s d x = 0
  | [], _, _, _, h => absurd h (Nat.not_lt_zero _)
  | g :: l, 0, f, hf, _ => fun s d x => by
    show alt l (dif g f) s d x = 0
    rw [hf.dif0 g]; exact alt_zero l s d x
  | g :: l, n + 1, f, hf, h => fun s d x => alt_poly l (hf.dif g n rfl) (by simpa using h) s d x
def PT (t d x : Int) : Int := (1 - d * d) * (1 - (x - t) * (x - t))
def FT (t : Int) (s d x : Int) : Int := (1 - s * s) * PT t d x
theorem FT_poly (t : Int) : Poly 6 (FT t) := by
  have h0 : Poly 0 (fun _ _ _ => (1 : Int)) := .const 0 1
  have h1 := Poly.lin 0 0 1 (1 - t) h0
  have h2 := Poly.lin 0 0 (-1) (1 + t) h1
  have h3 := Poly.lin 0 1 0 1 h2
  have h4 := Poly.lin 0 (-1) 0 1 h3
  have h5 := Poly.lin 1 0 0 1 h4
  have h6 := Poly.lin (-1) 0 0 1 h5
  refine cast (congrArg (Poly 6) ?_) h6
  funext s d x
  unfold FT PT
  have sq : ∀ y : Int, (1 - y) * (1 + y) = 1 - y * y := fun y => by
    rw [Int.sub_mul, Int.mul_add, Int.mul_add]; omega
  rw [← sq s, ← sq d, ← sq (x - t)]
  simp only [Int.zero_mul, Int.zero_add, Int.one_mul, Int.mul_one, Int.add_zero, Int.neg_mul]
  rw [show -s + 1 = 1 - s by omega, show s + 1 = 1 + s by omega, show -d + 1 = 1 - d by omega, show d + 1 = 1 + d by omega, show -x + (1 + t) = 1 - (x - t) by omega, show x + (1 - t) = 1 + (x - t) by omega]
  simp only [Int.mul_assoc]
end Mine

end

section
namespace Mine
set_option maxRecDepth 100000
set_option maxHeartbeats 4000000 in
theorem count_key (t d0 d1 d2 d3 d4 d5 d6 x0 x1 x2 x3 x4 x5 x6 : Int) : ((PT t (d2 + d1 + d0) (x2 + x1 + x0) + PT t (d3 + d1 + d0) (x3 + x1 + x0) + PT t (d3 + d2 + d0) (x3 + x2 + x0) + PT t (d3 + d2 + d1) (x3 + x2 + x1) + PT t (d4 + d1 + d0) (x4 + x1 + x0) + PT t (d4 + d2 + d0) (x4 + x2 + x0) + PT t (d4 + d2 + d1) (x4 + x2 + x1) + PT t (d4 + d3 + d0) (x4 + x3 + x0) + PT t (d4 + d3 + d1) (x4 + x3 + x1) + PT t (d4 + d3 + d2) (x4 + x3 + x2) + PT t (d5 + d1 + d0) (x5 + x1 + x0) + PT t (d5 + d2 + d0) (x5 + x2 + x0) + PT t (d5 + d2 + d1) (x5 + x2 + x1) + PT t (d5 + d3 + d0) (x5 + x3 + x0) + PT t (d5 + d3 + d1) (x5 + x3 + x1) + PT t (d5 + d3 + d2) (x5 + x3 + x2) + PT t (d5 + d4 + d0) (x5 + x4 + x0) + PT t (d5 + d4 + d1) (x5 + x4 + x1) + PT t (d5 + d4 + d2) (x5 + x4 + x2) + PT t (d5 + d4 + d3) (x5 + x4 + x3) + PT t (d6 + d1 + d0) (x6 + x1 + x0) + PT t (d6 + d2 + d0) (x6 + x2 + x0) + PT t (d6 + d2 + d1) (x6 + x2 + x1) + PT t (d6 + d3 + d0) (x6 + x3 + x0) + PT t (d6 + d3 + d1) (x6 + x3 + x1) + PT t (d6 + d3 + d2) (x6 + x3 + x2) + PT t (d6 + d4 + d0) (x6 + x4 + x0) + PT t (d6 + d4 + d1) (x6 + x4 + x1) + PT t (d6 + d4 + d2) (x6 + x4 + x2) + PT t (d6 + d4 + d3) (x6 + x4 + x3) + PT t (d6 + d5 + d0) (x6 + x5 + x0) + PT t (d6 + d5 + d1) (x6 + x5 + x1) + PT t (d6 + d5 + d2) (x6 + x5 + x2) + PT t (d6 + d5 + d3) (x6 + x5 + x3) + PT t (d6 + d5 + d4) (x6 + x5 + x4)) - (PT t (d6 + d5 + d4 + d3 + d2 + d1) (x6 + x5 + x4 + x3 + x2 + x1) + PT t (d6 + d5 + d4 + d3 + d2 + d0) (x6 + x5 + x4 + x3 + x2 + x0) + PT t (d6 + d5 + d4 + d3 + d1 + d0) (x6 + x5 + x4 + x3 + x1 + x0) + PT t (d6 + d5 + d4 + d2 + d1 + d0) (x6 + x5 + x4 + x2 + x1 + x0) + PT t (d6 + d5 + d3 + d2 + d1 + d0) (x6 + x5 + x3 + x2 + x1 + x0) + PT t (d6 + d4 + d3 + d2 + d1 + d0) (x6 + x4 + x3 + x2 + x1 + x0) + PT t (d5 + d4 + d3 + d2 + d1 + d0) (x5 + x4 + x3 + x2 + x1 + x0)) - PT t 0 0) % 3 = 0 := by
  have h := alt_poly [(1, d0, x0), (1, d1, x1), (1, d2, x2), (1, d3, x3), (1, d4, x4), (1, d5, x5), (1, d6, x6)] (FT_poly t) (Nat.lt_succ_self 6) 0 0 0
  simp only [alt, dif, Int.zero_add, Int.reduceAdd] at h
  simp only [FT, Int.reduceMul, Int.reduceSub, Int.zero_mul, Int.one_mul, Int.sub_zero, Int.zero_sub] at h
  omega
theorem sq_mod (y : Int) : (1 - y * y) % 3 = if y % 3 = 0 then 1 else 0 := by
  have h : y * y % 3 = y % 3 * (y % 3) % 3 := Int.mul_emod ..
  have h3 : y % 3 = 0 ∨ y % 3 = 1 ∨ y % 3 = 2 := by omega
  rcases h3 with e | e | e <;> (rw [e] at h ⊢; simp at h ⊢; omega)
theorem PT_mod (t d x : Int) : PT t d x % 3 = if d % 3 = 0 ∧ (x - t) % 3 = 0 then 1 else 0 := by
  unfold PT
  rw [Int.mul_emod, sq_mod, sq_mod]
  by_cases h1 : d % 3 = 0 <;> by_cases h2 : (x - t) % 3 = 0 <;> simp [h1, h2]
theorem fmod3 (y : Int) : Int.fmod y 3 = y % 3 := Int.fmod_eq_emod_of_nonneg _ (by decide)
def xat (xs : List Int) (i : Nat) : Int := xs.getD i 0
def D3 (xs : List Int) (p : Nat × Nat × Nat) : Int := dot (xat xs p.1) + dot (xat xs p.2.1) + dot (xat xs p.2.2)
def X3 (xs : List Int) (p : Nat × Nat × Nat) : Int := xat xs p.1 + xat xs p.2.1 + xat xs p.2.2
def thrF (xs : List Int) (p : Nat × Nat × Nat) : Option Int := if Int.fmod (D3 xs p) 3 = 0 then some (Int.fmod (X3 xs p) 3) else none
def thr (xs : List Int) (l : List (Nat × Nat × Nat)) : List Int := l.filterMap (thrF xs)
def D6 (xs : List Int) (k : Nat) : Int := (xs.map dot).sum - dot (xat xs k)
def X6 (xs : List Int) (k : Nat) : Int := xs.sum - xat xs k
def sixF (xs : List Int) (k : Nat) : Option Int := if Int.fmod (D6 xs k) 3 = 0 then some (Int.fmod (X6 xs k) 3) else none
def sixs (xs : List Int) (l : List Nat) : List Int := l.filterMap (sixF xs)
theorem count_mod {α : Type} (t : Int) (ht : 0 ≤ t ∧ t < 3) (D X : α → Int) : ∀ l : List α, (((l.filterMap fun p => if Int.fmod (D p) 3 = 0 then some (Int.fmod (X p) 3) else none).count t : Nat) : Int) % 3 = (l.map fun p => PT t (D p) (X p)).sum % 3
  | [] => rfl
  | p :: l => by
    have ih := count_mod t ht D X l
    have hp := PT_mod t (D p) (X p)
    rw [List.map_cons, List.sum_cons]
    by_cases h : Int.fmod (D p) 3 = 0
    · rw [List.filterMap_cons_some (b := Int.fmod (X p) 3) (by simp [h])]
      rw [fmod3] at h
      rw [List.count_cons]
      by_cases h2 : Int.fmod (X p) 3 = t
      · rw [fmod3] at h2
        rw [if_pos ⟨h, by omega⟩] at hp
        rw [fmod3, if_pos (by simp [h2])]
        omega
      · rw [fmod3] at h2
        rw [if_neg (by intro q; omega)] at hp
        rw [fmod3, if_neg (by simp [h2])]
        omega
    · rw [List.filterMap_cons_none (by simp [h])]
      rw [fmod3] at h
      rw [if_neg (by intro q; exact h q.1)] at hp
      omega
theorem trip_eq : trip = [(2, 1, 0), (3, 1, 0), (3, 2, 0), (3, 2, 1), (4, 1, 0), (4, 2, 0), (4, 2, 1), (4, 3, 0), (4, 3, 1), (4, 3, 2), (5, 1, 0), (5, 2, 0), (5, 2, 1), (5, 3, 0), (5, 3, 1), (5, 3, 2), (5, 4, 0), (5, 4, 1), (5, 4, 2), (5, 4, 3), (6, 1, 0), (6, 2, 0), (6, 2, 1), (6, 3, 0), (6, 3, 1), (6, 3, 2), (6, 4, 0), (6, 4, 1), (6, 4, 2), (6, 4, 3), (6, 5, 0), (6, 5, 1), (6, 5, 2), (6, 5, 3), (6, 5, 4)] := by decide +kernel
theorem law_count {xs : List Int} (hl : xs.length = 7) {t : Int} (ht : 0 ≤ t ∧ t < 3) : Int.fmod (((thr xs trip).count t : Nat) - ((sixs xs (List.range 7)).count t : Nat)) 3 = if t = 0 then 1 else 0 := by
  have h3 := count_mod t ht (D3 xs) (X3 xs) trip
  have h6 := count_mod t ht (D6 xs) (X6 xs) (List.range 7)
  have e3 : thr xs trip = trip.filterMap fun p => if Int.fmod (D3 xs p) 3 = 0 then some (Int.fmod (X3 xs p) 3) else none := rfl
  have e6 : sixs xs (List.range 7) = (List.range 7).filterMap fun p => if Int.fmod (D6 xs p) 3 = 0 then some (Int.fmod (X6 xs p) 3) else none := rfl
  rw [e3, e6, fmod3]
  generalize hc3 : (trip.filterMap fun p => if Int.fmod (D3 xs p) 3 = 0 then some (Int.fmod (X3 xs p) 3) else none).count t = c3 at h3 ⊢
  generalize hc6 : ((List.range 7).filterMap fun p => if Int.fmod (D6 xs p) 3 = 0 then some (Int.fmod (X6 xs p) 3) else none).count t = c6 at h6 ⊢
  clear hc3 hc6 e3 e6
  match xs, hl with
  | [x0, x1, x2, x3, x4, x5, x6], _ =>
    have key := count_key t (dot x0) (dot x1) (dot x2) (dot x3) (dot x4) (dot x5) (dot x6) x0 x1 x2 x3 x4 x5 x6
    have hr : List.range 7 = [0, 1, 2, 3, 4, 5, 6] := rfl
    rw [trip_eq] at h3
    rw [hr] at h6
    simp only [List.map_cons, List.map_nil, List.sum_cons, List.sum_nil, D3, X3, D6, X6, xat, List.getD_cons_zero, List.getD_cons_succ, Int.add_zero] at h3 h6
    generalize dot x0 = d0 at *
    generalize dot x1 = d1 at *
    generalize dot x2 = d2 at *
    generalize dot x3 = d3 at *
    generalize dot x4 = d4 at *
    generalize dot x5 = d5 at *
    generalize dot x6 = d6 at *
    rw [show d0 + (d1 + (d2 + (d3 + (d4 + (d5 + d6))))) - d0 = d6 + d5 + d4 + d3 + d2 + d1 by omega] at h6
    rw [show x0 + (x1 + (x2 + (x3 + (x4 + (x5 + x6))))) - x0 = x6 + x5 + x4 + x3 + x2 + x1 by omega] at h6
    rw [show d0 + (d1 + (d2 + (d3 + (d4 + (d5 + d6))))) - d1 = d6 + d5 + d4 + d3 + d2 + d0 by omega] at h6
    rw [show x0 + (x1 + (x2 + (x3 + (x4 + (x5 + x6))))) - x1 = x6 + x5 + x4 + x3 + x2 + x0 by omega] at h6
    rw [show d0 + (d1 + (d2 + (d3 + (d4 + (d5 + d6))))) - d2 = d6 + d5 + d4 + d3 + d1 + d0 by omega] at h6
    rw [show x0 + (x1 + (x2 + (x3 + (x4 + (x5 + x6))))) - x2 = x6 + x5 + x4 + x3 + x1 + x0 by omega] at h6
    rw [show d0 + (d1 + (d2 + (d3 + (d4 + (d5 + d6))))) - d3 = d6 + d5 + d4 + d2 + d1 + d0 by omega] at h6
    rw [show x0 + (x1 + (x2 + (x3 + (x4 + (x5 + x6))))) - x3 = x6 + x5 + x4 + x2 + x1 + x0 by omega] at h6
    rw [show d0 + (d1 + (d2 + (d3 + (d4 + (d5 + d6))))) - d4 = d6 + d5 + d3 + d2 + d1 + d0 by omega] at h6
    rw [show x0 + (x1 + (x2 + (x3 + (x4 + (x5 + x6))))) - x4 = x6 + x5 + x3 + x2 + x1 + x0 by omega] at h6
    rw [show d0 + (d1 + (d2 + (d3 + (d4 + (d5 + d6))))) - d5 = d6 + d4 + d3 + d2 + d1 + d0 by omega] at h6
    rw [show x0 + (x1 + (x2 + (x3 + (x4 + (x5 + x6))))) - x5 = x6 + x4 + x3 + x2 + x1 + x0 by omega] at h6
    rw [show d0 + (d1 + (d2 + (d3 + (d4 + (d5 + d6))))) - d6 = d5 + d4 + d3 + d2 + d1 + d0 by omega] at h6
    rw [show x0 + (x1 + (x2 + (x3 + (x4 + (x5 + x6))))) - x6 = x5 + x4 + x3 + x2 + x1 + x0 by omega] at h6
    have hp := PT_mod t 0 0
    by_cases h0 : t = 0
    · rw [if_pos h0]; rw [if_pos ⟨rfl, by omega⟩] at hp; omega
    · rw [if_neg h0]; rw [if_neg (by intro q; omega)] at hp; omega
end Mine

end

section
open PySem PySem.W PyProof.Rows PySem.Calls
namespace Mine
local macro_rules | `(tactic| walk_at "nothing 0") => `(tactic| skip)
local macro_rules | `(tactic| walk_at "nothing 1") => `(tactic| skip)
local macro_rules | `(tactic| walk_at "nothing 2") => `(tactic| skip)
local macro_rules | `(tactic| walk_at "nothing 3") => `(tactic| skip)
local macro_rules | `(tactic| walk_at "nothing 4") => `(tactic| skip)
local macro_rules | `(tactic| walk_at "nothing 5") => `(tactic| skip)
local macro_rules | `(tactic| walk_at "nothing 6") => `(tactic| skip)
set_option maxRecDepth 100000
set_option maxHeartbeats 8000000
local macro_rules | `(tactic| walk_at "eval Name") => `(tactic| (k_here; (with_reducible show wpAny _ _ (eval (Expr.Name _ _) _) _ _ _); k_dflt (refine nameX_L (by k_asm) (by assumption) ?_ (by rfl) (by rfl) (by decide))))
local macro_rules | `(tactic| walk_at "call ref") => `(tactic| (k_here; (with_reducible show wpAny _ _ (call (Value.ref 43) [Value.int _ _]) _ _ _); k_dflt (refine' pretty_call _ _ _ _ _ _ _ _ _ ?k0 _ _ _ _ _ _ _ _ _ _ _ _ _ _ _ _ _ ?k1 ?k2 ?k3 ?k4 ?k5 ?kK ?kd ?ku ?_; (case k0 => assumption); (case k1 => k_asm); (case k2 => k_asm); (case k3 => k_asm); (case k4 => k_asm); (case k5 => k_asm); (case kK => first | exact rfl | assumption); (case kd => ktr_room); (case ku => ktr_units); intro t9 h9 tk9 F9 N9; (try dsimp only); (try k_fold))))
local macro_rules | `(tactic| walk_at "call builtin:str.split") => `(tactic| (k_here; k_dflt (refine' KSpl.split1 ?k1 ?k2 ?k3 ?_ ?k4; (case k1 => k_asm); (case k2 => k_asm); (case k3 => decide +kernel); (case k4 => assumption); intro D' l' h' k' e' a' F' N' l1; (rw [‹Txt.split _ _ = _›] at e'); kspl_open e'; (simp only [strValues, List.map_cons, List.map_nil] at N' a'))))
theorem b0 : ∀ (w : World) (p : Program) (loose : List Str) (mean : ExcName → Option Value) (mg mb : Str → Option Value) (cs : Cs) (m : Str → Option Value) (news : List (Addr × Obj)) (a b c : Int) (ta tb tc : Tok) (wa wb wc : Str), m (Str.ofString "a") = some (.int a ta) → m (Str.ofString "b") = some (.int b tb) → m (Str.ofString "c") = some (.int c tc) → 0 ≤ a ∧ a < 7 → 0 ≤ b ∧ b < 7 → 0 ≤ c ∧ c < 7 →
    Txt.split (prettyS (2 ^ a.toNat + 2 ^ b.toNat + 2 ^ c.toNat)) (Str.ofString ", ") = [wc, wb, wa] → (prettyS (2 ^ a.toNat + 2 ^ b.toNat + 2 ^ c.toNat)).length + 2 ≤ sizeLine → 0 < (2 : Int) ^ a.toNat + 2 ^ b.toNat + 2 ^ c.toNat ∧ (2 : Int) ^ a.toNat + 2 ^ b.toNat + 2 ^ c.toNat < 128 →
    Blk w p loose mean mg mb 2 cs (bAt 0) m news (fun _ => True) (fun h₀ L s Q =>
      ∀ (WA : Addr) (u0 u1 u2 : Tok) (h' : Heap) (tk' : Nat), Fr h₀ L h' (fun y => if y = Str.ofString "words" then some (.ref WA) else m y) → News h₀ L h' ((WA, W.listOf #[.str wc u0, .str wb u1, .str wa u2] 0) :: news) → (∀ p ∈ news, p.1 < WA) →
        Q .next { s with heap := h', toks := tk' }) := by
  dsimp only [Blk, Cs.cl]
  k_fill
  w_top off
  intro w p loose mean mg mb cs m news a b c ta tb tc wa wb wc ha hb hc hba hbb hbc hs1 hs2 hs3 dp un gd ad ccd outer A₀ base h₀ L s Q E B F X N T _ hdp hu hpo hret
  obtain ⟨ha0, ha7⟩ := hba
  obtain ⟨hb0, hb7⟩ := hbb
  obtain ⟨hc0, hc7⟩ := hbc
  with_unfolding_all show wpAny _ _ (exec (Stmt.Assign _ _ _) _) _ _ _
  k_steps
  exact hret _ _ _ _ _ _ (by k_asm) (by k_asm) (by assumption)
end Mine

end

section
open PySem PySem.W PyProof.Rows PySem.Calls
namespace Mine
local macro_rules | `(tactic| walk_at "nothing 0") => `(tactic| skip)
local macro_rules | `(tactic| walk_at "nothing 1") => `(tactic| skip)
local macro_rules | `(tactic| walk_at "nothing 2") => `(tactic| skip)
local macro_rules | `(tactic| walk_at "nothing 3") => `(tactic| skip)
local macro_rules | `(tactic| walk_at "nothing 4") => `(tactic| skip)
local macro_rules | `(tactic| walk_at "nothing 5") => `(tactic| skip)
local macro_rules | `(tactic| walk_at "nothing 6") => `(tactic| skip)
local macro_rules | `(tactic| walk_at "nothing 7") => `(tactic| skip)
local macro_rules | `(tactic| walk_at "nothing 8") => `(tactic| skip)
local macro_rules | `(tactic| walk_at "nothing 9") => `(tactic| skip)
local macro_rules | `(tactic| walk_at "nothing 10") => `(tactic| skip)
local macro_rules | `(tactic| walk_at "nothing 11") => `(tactic| skip)
local macro_rules | `(tactic| walk_at "nothing 12") => `(tactic| skip)
local macro_rules | `(tactic| walk_at "nothing 13") => `(tactic| skip)
set_option maxRecDepth 100000
set_option maxHeartbeats 8000000
local macro_rules | `(tactic| walk_at "eval Name") => `(tactic| (k_here; (fail_if_success (with_reducible show wpAny _ _ (eval (Expr.Name _ _) (compEnvC _ _ _ _)) _ _ _)); k_dflt (refine nameX_L (by k_asm) (by assumption) ?_ (by rfl) (by rfl) (by decide))))
local macro_rules | `(tactic| walk_at "subscriptTail Name Name ref str") => `(tactic| (k_here; k_dflt (refine kda_item (knd := PySem.strKind _ _) (by k_asm) (by k_mem) (by assumption) (strKind_is _ _ _ _) (by assumption) ?_)))
local macro_rules | `(tactic| k_mem) => `(tactic| assumption)
local macro_rules | `(tactic| walk_at "CompSrc") => `(tactic| (k_here; k_dflt (refine LCg.CompSrc.ledger (by rfl) (by k_asm) (by k_asm) (List.Mem.head _) (by exact Nat.le_of_ble_eq_true rfl) ?_); intro g'))
local macro_rules | `(tactic| walk_at "CompEnd") => `(tactic| (k_dflt (refine LCg.CompEnd.intro (by assumption) (by assumption) _ ?sub ?off ?S (And.intro rfl ?R); (case sub => kcf_all); (case off => assumption); (case S => exact Or.inr ⟨_, List.Mem.head _, rfl, _, rfl⟩); (case R => exact ⟨_, _, rfl, rfl⟩))))
def ItR (xs : List Int) (i : Nat) (y : Value) : Prop := ∃ x t, xs[i]? = some x ∧ y = Value.int x t
theorem three_of {x0 x1 x2 : Int} {ys : List Value} (hl : ys.length = 3) (h : ∀ i y, ys[i]? = some y → ItR [x0, x1, x2] i y) : ∃ t0 t1 t2, ys = [Value.int x0 t0, Value.int x1 t1, Value.int x2 t2] := by
  match ys, hl with
  | [y0, y1, y2], _ =>
    obtain ⟨a, ta, e, rfl⟩ := h 0 _ rfl
    obtain ⟨b, tb, f, rfl⟩ := h 1 _ rfl
    obtain ⟨c, tc, g, rfl⟩ := h 2 _ rfl
    simp at e f g
    subst e f g
    exact ⟨_, _, _, rfl⟩
theorem lt3 {i : Nat} (h : i < 3) : i = 0 ∨ i = 1 ∨ i = 2 := by omega
theorem b1 : ∀ (w : World) (p : Program) (loose : List Str) (mean : ExcName → Option Value) (mg mb : Str → Option Value) (c1 c2 c3 c4 c5 c6 c7 : Addr) (m : Str → Option Value) (news : List (Addr × Obj)) (WA : Addr) (u0 u1 u2 : Tok) (a b c : Int) (ta tb tc : Tok) (wa wb wc : Str) (o4 : Obj) (PA : Addr) (po : Obj) (kvs : List (Str × Value)),
    m (Str.ofString "words") = some (.ref WA) → (c4, o4) ∈ news → o4.data = .cell (some (.ref PA)) → (PA, po) ∈ news → po.IsDictOf (PySem.strKind PySem.Challenge.rw_re0048_01.row.prog w) kvs → valueAt kvs wa = some (.int a ta) → valueAt kvs wb = some (.int b tb) → valueAt kvs wc = some (.int c tc) → (∀ p ∈ news, p.1 < WA) →
    Blk w p loose mean mg mb 2 ⟨c1, c2, c3, c4, c5, c6, c7⟩ (bAt 1) m ((WA, W.listOf #[.str wc u0, .str wb u1, .str wa u2] 0) :: news) (fun _ => True) (fun h₀ L s Q =>
      ∀ (t0 t1 t2 : Tok) (h' : Heap) (tk' : Nat), Fr h₀ L h' (fun y => if y = Str.ofString "k" then some (.int a t2) else if y = Str.ofString "j" then some (.int b t1) else if y = Str.ofString "i" then some (.int c t0) else m y) → News h₀ L h' ((WA, W.listOf #[.str wc u0, .str wb u1, .str wa u2] 0) :: news) →
        Q .next { s with heap := h', toks := tk' }) := by
  dsimp only [Blk, Cs.cl]
  k_fill
  w_top off
  intro w p loose mean mg mb c1 c2 c3 c4 c5 c6 c7 m news WA u0 u1 u2 a b c ta tb tc wa wb wc o4 PA po kvs hm1 h4m h4 hPA hdict hva hvb hvc hWA dp un gd ad ccd outer A₀ base h₀ L s Q E B F X N T _ hdp hu hpo hret
  with_unfolding_all show wpAny _ _ (exec (Stmt.Assign _ _ _) _) _ _ _
  walk1
  k_dflt (refine LCg.ListComp_U (F₀ := by k_asm) (by with_unfolding_all rfl) (by decide) (by rfl) (by decide) (by rfl) ?_)
  walk1
  walk1
  refine rest_all (ItR [c, b, a]) _ ?_ ?_
  · intro i v I oI C oC D' ys m₂ h tk E' hi hv hC hx F' N' off ne
    have hi3 : i = 0 ∨ i = 1 ∨ i = 2 := lt3 hi
    clear hi
    rcases hi3 with rfl | rfl | rfl
    · have hv' : Value.str wc u0 = v := Option.some.inj hv
      clear hv
      subst hv'
      k_steps
    · have hv' : Value.str wb u1 = v := Option.some.inj hv
      clear hv
      subst hv'
      k_steps
    · have hv' : Value.str wa u2 = v := Option.some.inj hv
      clear hv
      subst hv'
      k_steps
  · intro ys hl hR
    obtain ⟨t0, t1, t2, rfl⟩ := three_of hl hR
    unfold LCg.FinE
    intro D' h' tk' F' N' off
    simp only [LCg.Off1] at off
    k_steps
    rename News _ _ _ _ => N9
    exact hret t0 t1 t2 _ _ (by k_asm) (cb_drop N9 (by intro p hp; exact .tail _ hp))
end Mine

end

section
open PySem PySem.W PyProof.Rows PySem.Calls
namespace Mine
set_option maxRecDepth 100000
set_option maxHeartbeats 4000000
theorem item_at {prog : Program} {w : World} {A : Around} {E : Value → Shared → Prop} {s : Shared} {value slice : PySem.Expr} {l : Addr} {vs : List Value} {k : Int} {u : Tok} {v : Value} {Q : Value → Shared → Prop}
    (hl : s.heap.IsList l vs.toArray) (h0 : 0 ≤ k) (hhi : k < 2 ^ 63) (hx : vs[k.toNat]? = some v) (h : Q v s)
    (hs : subscripted slice false (.ref l) (.int k u) = operate [.ref l, .int k u] (getItem (.ref l) (.int k u)) := by with_unfolding_all rfl) :
    wpAny (model prog w) A (subscriptTail value slice (.ref l) (.int k u)) Q E s :=
  tail_any hl.typeIs slot_list_getitem.lookup (wpAny_getItem_list hl h0 hhi (by simpa using hx) h) hs
theorem lt63 {k : Int} (h : k < 7) : k < 2 ^ 63 := by omega
local macro_rules | `(tactic| walk_at "eval Name") => `(tactic| (k_here; (fail_if_success (with_reducible show wpAny _ _ (eval (Expr.Name _ _) (compEnvC _ _ _ _)) _ _ _)); k_dflt (refine nameX_L (by k_asm) (by assumption) ?_ (by rfl) (by rfl) (by decide))))
local macro_rules | `(tactic| k_mem) => `(tactic| assumption)
local macro_rules | `(tactic| walk_at "subscriptTail Name Name ref int") => `(tactic| (k_here; k_dflt (refine item_at (News.isList (by k_asm) (by k_mem)) (by assumption) (lt63 (by assumption)) (by assumption) ?_ (by with_unfolding_all rfl))))
local macro_rules | `(tactic| walk_at "call ref") => `(tactic| (k_here; (with_reducible show wpAny _ _ (call (Value.ref 64) [Value.ref _, Value.int _ _]) _ _ _); k_dflt (refine' whole3 _ _ _ _ _ _ _ _ _ _ _ _ _ _ _ _ _ _ _ _ ?z0 ?z1 ?z2 ?z3 ?z4 ?z5 _ _ _ _ _ _ _ _ _ _ _ _ _ _ _ _ _ ?k1 ?k2 ?k3 ?k4 ?k5 ?kK ?kd ?ku ?_; (case k4 => k_asm); (case z0 => assumption); (case z1 => assumption); (case z2 => assumption); (case z3 => assumption); (case z4 => assumption); (case z5 => assumption); (case k1 => k_asm); (case k2 => k_asm); (case k3 => k_asm); (case k5 => k_asm); (case kK => first | exact rfl | assumption); (case kd => ktr_room); (case ku => ktr_units); intro t9 h9 tk9 F9 N9; (try dsimp only); (try k_fold))))
theorem b2 : ∀ (w : World) (p : Program) (loose : List Str) (mean : ExcName → Option Value) (mg mb : Str → Option Value) (cs : Cs) (m : Str → Option Value) (news : List (Addr × Obj)) (WA : Addr) (u0 u1 u2 : Tok) (a b c da db dc : Int) (ta tb tc t1 t2 t3 : Tok) (wa wb wc : Str) (DA : Addr) (ds : List Value) (wl : Str) (q : Nat) (tk : Bool),
    m (Str.ofString "words") = some (.ref WA) → m (Str.ofString "dots") = some (.ref DA) → m (Str.ofString "i") = some (.int c tc) → m (Str.ofString "j") = some (.int b tb) → m (Str.ofString "k") = some (.int a ta) →
    (DA, W.listOf ds.toArray ds.length) ∈ (WA, W.listOf #[.str wc u0, .str wb u1, .str wa u2] 0) :: news → 0 ≤ a → a < 7 → 0 ≤ b → b < 7 → 0 ≤ c → c < 7 → ds[a.toNat]? = some (.int da t1) → ds[b.toNat]? = some (.int db t2) → ds[c.toNat]? = some (.int dc t3) →
    0 ≤ dc + db + da → dc + db + da ≤ 20 → wc.length ≤ 20 → wb.length ≤ 20 → wa.length ≤ 20 → ellB (wantS wc wa (dc + db + da)) (gotS [wc, wb, wa]) wc wl q tk = true →
    Blk w p loose mean mg mb 4 cs (bAt 2) m ((WA, W.listOf #[.str wc u0, .str wb u1, .str wa u2] 0) :: news) (fun _ => True) (fun h₀ L s Q =>
      ∀ (h' : Heap) (tk' : Nat), Fr h₀ L h' (fun y => if y = Str.ofString "taken" then some (.bool tk) else m y) → News h₀ L h' ((WA, W.listOf #[.str wc u0, .str wb u1, .str wa u2] 0) :: news) →
        Q .next { s with heap := h', toks := tk' }) := by
  dsimp only [Blk, Cs.cl]
  k_fill
  w_top off
  intro w p loose mean mg mb cs m news WA u0 u1 u2 a b c da db dc ta tb tc t1 t2 t3 wa wb wc DA ds wl q tk hm1 hm2 hm3 hm4 hm5 hDA ha0 ha7 hb0 hb7 hc0 hc7 hda hdb hdc hd0 hd20 hw1 hw2 hw3 hell dp un gd ad ccd outer A₀ base h₀ L s Q E B F X N T _ hdp hu hpo hret
  with_unfolding_all show wpAny _ _ (exec (Stmt.Assign _ _ _) _) _ _ _
  k_steps
  exact hret _ _ (by k_asm) (by k_asm)
end Mine

end

section
open PySem PySem.W PyProof.Rows PySem.Calls
namespace Mine
local macro_rules | `(tactic| walk_at "nothing 0") => `(tactic| skip)
local macro_rules | `(tactic| walk_at "nothing 1") => `(tactic| skip)
local macro_rules | `(tactic| walk_at "nothing 2") => `(tactic| skip)
local macro_rules | `(tactic| walk_at "nothing 3") => `(tactic| skip)
local macro_rules | `(tactic| walk_at "nothing 4") => `(tactic| skip)
local macro_rules | `(tactic| walk_at "nothing 5") => `(tactic| skip)
local macro_rules | `(tactic| walk_at "nothing 6") => `(tactic| skip)
set_option maxRecDepth 100000
set_option maxHeartbeats 4000000
local macro_rules | `(tactic| walk_at "eval Name") => `(tactic| (k_here; (fail_if_success (with_reducible show wpAny _ _ (eval (Expr.Name _ _) (compEnvC _ _ _ _)) _ _ _)); k_dflt (refine nameX_L (by k_asm) (by assumption) ?_ (by rfl) (by rfl) (by decide))))
local macro_rules | `(tactic| k_mem) => `(tactic| assumption)
local macro_rules | `(tactic| walk_at "subscriptTail Name Name ref int") => `(tactic| (k_here; k_dflt (refine item_at (News.isList (by k_asm) (by k_mem)) (by assumption) (lt63 (by assumption)) (by assumption) ?_ (by with_unfolding_all rfl))))
theorem ne_no {x : Int} {tk : Bool} (h : tk = decide (x = 0)) (h' : (tk != (x == 0)) = true) : False := by
  subst h
  by_cases e : x = 0 <;> simp [e] at h'
theorem b3 : ∀ (w : World) (p : Program) (loose : List Str) (mean : ExcName → Option Value) (mg mb : Str → Option Value) (cs : Cs) (m : Str → Option Value) (news : List (Addr × Obj)) (a b c da db dc : Int) (ta tb tc t1 t2 t3 t4 : Tok) (DA : Addr) (ds : List Value) (tk : Bool),
    m (Str.ofString "taken") = some (.bool tk) → m (Str.ofString "dots") = some (.ref DA) → m (Str.ofString "a") = some (.int a ta) → m (Str.ofString "b") = some (.int b tb) → m (Str.ofString "c") = some (.int c tc) →
    (DA, W.listOf ds.toArray ds.length) ∈ news → 0 ≤ a → a < 7 → 0 ≤ b → b < 7 → 0 ≤ c → c < 7 → ds[a.toNat]? = some (.int da t1) → ds[b.toNat]? = some (.int db t2) → ds[c.toNat]? = some (.int dc t3) →
    (tk = decide (Int.fmod (da + db + dc) 3 = 0)) →
    Blk w p loose mean mg mb 2 cs (bAt 3) m news (fun _ => True) (fun h₀ L s Q =>
      ∀ (h' : Heap) (tk' : Nat), Fr h₀ L h' m → News h₀ L h' news →
        Q .next { s with heap := h', toks := tk' }) := by
  dsimp only [Blk, Cs.cl]
  k_fill
  w_top off
  intro w p loose mean mg mb cs m news a b c da db dc ta tb tc t1 t2 t3 t4 DA ds tk hm1 hm2 hm3 hm4 hm5 hDA ha0 ha7 hb0 hb7 hc0 hc7 hda hdb hdc htk dp un gd ad ccd outer A₀ base h₀ L s Q E B F X N T _ hdp hu hpo hret
  with_unfolding_all show wpAny _ _ (exec (Stmt.If _ _ _ _) _) _ _ _
  k_steps
  · exact (ne_no htk (by assumption)).elim
  · exact hret _ _ F N
end Mine

end

section
open PySem PySem.W PyProof.Rows PySem.Calls
namespace Mine
local macro_rules | `(tactic| walk_at "nothing 0") => `(tactic| skip)
local macro_rules | `(tactic| walk_at "nothing 1") => `(tactic| skip)
local macro_rules | `(tactic| walk_at "nothing 2") => `(tactic| skip)
local macro_rules | `(tactic| walk_at "nothing 3") => `(tactic| skip)
local macro_rules | `(tactic| walk_at "nothing 4") => `(tactic| skip)
local macro_rules | `(tactic| walk_at "nothing 5") => `(tactic| skip)
local macro_rules | `(tactic| walk_at "nothing 6") => `(tactic| skip)
local macro_rules | `(tactic| walk_at "nothing 7") => `(tactic| skip)
local macro_rules | `(tactic| walk_at "nothing 8") => `(tactic| skip)
local macro_rules | `(tactic| walk_at "nothing 9") => `(tactic| skip)
local macro_rules | `(tactic| walk_at "nothing 10") => `(tactic| skip)
local macro_rules | `(tactic| walk_at "nothing 11") => `(tactic| skip)
local macro_rules | `(tactic| walk_at "nothing 12") => `(tactic| skip)
local macro_rules | `(tactic| walk_at "nothing 13") => `(tactic| skip)
set_option maxRecDepth 100000
set_option maxHeartbeats 4000000
local macro_rules | `(tactic| walk_at "eval Name") => `(tactic| (k_here; (fail_if_success (with_reducible show wpAny _ _ (eval (Expr.Name _ _) (compEnvC _ _ _ _)) _ _ _)); k_dflt (refine nameX_L (by k_asm) (by assumption) ?_ (by rfl) (by rfl) (by decide))))
theorem b4 : ∀ (w : World) (p : Program) (loose : List Str) (mean : ExcName → Option Value) (mg mb : Str → Option Value) (c1 c2 c3 c4 c5 c6 c7 : Addr) (m : Str → Option Value) (news : List (Addr × Obj)) (tk : Bool), m (Str.ofString "taken") = some (.bool tk) →
  ∀ (dp un : Nat) (gd : Option (List Code)) (a : Addr) (ccd : Value) (outer : List Env) (A₀ : Around) (base h₀ : Heap) (L : Addr) (s : Shared) (Q : Flow → Shared → Prop) (E : Value → Shared → Prop),
    Below A₀ base outer h₀ → Fr h₀ L s.heap m → (hd.heap_39 w.params).In h₀ → News h₀ L s.heap news → Top p loose mean mg mb h₀ →
    (tk = true → wpAny (model PySem.Challenge.rw_re0048_01.row.prog w) (ktrTop dp un gd lawNm lawDef.2 L a ccd (Cs.cl ⟨c1, c2, c3, c4, c5, c6, c7⟩) outer) (execs (ifBody (bAt 4)) (envX lawNm lawDef.2 L a ccd (Cs.cl ⟨c1, c2, c3, c4, c5, c6, c7⟩))) Q E s) → (tk = false → Q .next s) →
      wpAny (model PySem.Challenge.rw_re0048_01.row.prog w) (ktrTop dp un gd lawNm lawDef.2 L a ccd (Cs.cl ⟨c1, c2, c3, c4, c5, c6, c7⟩) outer) (exec (bAt 4) (envX lawNm lawDef.2 L a ccd (Cs.cl ⟨c1, c2, c3, c4, c5, c6, c7⟩))) Q E s := by
  dsimp only [Cs.cl]
  k_fill
  w_top off
  intro w p loose mean mg mb c1 c2 c3 c4 c5 c6 c7 m news tk hm dp un gd ad ccd outer A₀ base h₀ L s Q E B F X N T ht hf
  with_unfolding_all show wpAny _ _ (exec (Stmt.If _ _ _ _) _) _ _ _
  cases tk with
  | true =>
    walk1
    walk1
    walk1
    walk1
    exact ht rfl
  | false =>
    k_steps
    exact hf rfl
end Mine

end

section
open PySem PySem.W PyProof.Rows PySem.Calls
namespace Mine
set_option maxRecDepth 100000
set_option maxHeartbeats 4000000
local macro_rules | `(tactic| walk_at "eval Name") => `(tactic| (k_here; (fail_if_success (with_reducible show wpAny _ _ (eval (Expr.Name _ _) (compEnvC _ _ _ _)) _ _ _)); k_dflt (refine nameX_L (by k_asm) (by assumption) ?_ (by rfl) (by rfl) (by decide))))
local macro_rules | `(tactic| k_mem) => `(tactic| assumption)
local macro_rules | `(tactic| walk_at "subscriptTail Name Name ref int") => `(tactic| (k_here; k_dflt (refine item_at (News.isList (by k_asm) (by k_mem)) (by assumption) (lt63 (by assumption)) (by assumption) ?_ (by with_unfolding_all rfl))))
local macro_rules | `(tactic| walk_at "storeName") => `(tactic| (k_here; k_dflt (refine' storeX_C ?F ?N ?c ?U ?d ?_ ?hk ?hx; (case F => k_asm); (case N => k_asm); (case c => rfl); (case U => (repeat' (first | exact UpdF.head (by assumption) | exact UpdF.head (List.forall_mem_cons.mpr ⟨by k_ne, by assumption⟩) | exact UpdF.head (List.forall_mem_cons.mpr ⟨by k_ne, List.forall_mem_cons.mpr ⟨by k_ne, by assumption⟩⟩) | refine' UpdF.tail (by k_ne) ?_))); (case d => k_asm); (case hk => rfl); (case hx => rfl); intro h' o' F' N' d')))
theorem t0 : ∀ (w : World) (p : Program) (loose : List Str) (mean : ExcName → Option Value) (mg mb : Str → Option Value) (c1 c2 c3 c4 c5 c6 c7 : Addr) (o5 o6 o7 : Obj) (z5 z6 z7 : Option Value) (m : Str → Option Value) (news : List (Addr × Obj)) (a b c : Int) (ra rb rc : Addr) (ta tb tc : Tok) (LA : Addr) (rs : List Value),
    m (Str.ofString "lamps") = some (.ref LA) → m (Str.ofString "i") = some (.int c tc) → m (Str.ofString "j") = some (.int b tb) → m (Str.ofString "k") = some (.int a ta) →
    (LA, W.listOf rs.toArray rs.length) ∈ news → 0 ≤ a → a < 7 → 0 ≤ b → b < 7 → 0 ≤ c → c < 7 → rs[a.toNat]? = some (.ref ra) → rs[b.toNat]? = some (.ref rb) → rs[c.toNat]? = some (.ref rc) →
    o5.data = .cell z5 → o6.data = .cell z6 → o7.data = .cell z7 → @LT.lt Nat _ c5 c6 → @LT.lt Nat _ c6 c7 → (∀ p ∈ news, p.1 ≠ c5) → (∀ p ∈ news, p.1 ≠ c6) → (∀ p ∈ news, p.1 ≠ c7) →
    Blk w p loose mean mg mb 2 ⟨c1, c2, c3, c4, c5, c6, c7⟩ (tAt 0) m ((c7, o7) :: (c6, o6) :: (c5, o5) :: news) (fun _ => True) (fun h₀ L s Q =>
      ∀ (o5' o6' o7' : Obj) (h' : Heap) (tk' : Nat), Fr h₀ L h' m → News h₀ L h' ((c7, o7') :: (c6, o6') :: (c5, o5') :: news) → o5'.data = .cell (some (.ref rc)) → o6'.data = .cell (some (.ref rb)) → o7'.data = .cell (some (.ref ra)) →
        Q .next { s with heap := h', toks := tk' }) := by
  dsimp only [Blk, Cs.cl]
  k_fill
  w_top off
  intro w p loose mean mg mb c1 c2 c3 c4 c5 c6 c7 o5 o6 o7 z5 z6 z7 m news a b c ra rb rc ta tb tc LA rs hm1 hm2 hm3 hm4 hLA ha0 ha7 hb0 hb7 hc0 hc7 hra hrb hrc h5 h6 h7 hl5 hl6 hn5 hn6 hn7 dp un gd ad ccd outer A₀ base h₀ L s Q E B F X N T _ hdp hu hpo hret
  with_unfolding_all show wpAny _ _ (exec (Stmt.Assign _ _ _) _) _ _ _
  k_steps
  rename News _ _ _ _ => N9
  exact hret _ _ _ _ _ (by k_asm) (cb_drop N9 (by intro p hp; exact .tail _ hp)) (by with_reducible assumption) (by with_reducible assumption) (by with_reducible assumption)
end Mine

end

section
open PySem PySem.W PyProof.Rows PySem.Calls
namespace Mine
local macro_rules | `(tactic| walk_at "nothing 0") => `(tactic| skip)
local macro_rules | `(tactic| walk_at "nothing 1") => `(tactic| skip)
local macro_rules | `(tactic| walk_at "nothing 2") => `(tactic| skip)
local macro_rules | `(tactic| walk_at "nothing 3") => `(tactic| skip)
local macro_rules | `(tactic| walk_at "nothing 4") => `(tactic| skip)
local macro_rules | `(tactic| walk_at "nothing 5") => `(tactic| skip)
local macro_rules | `(tactic| walk_at "nothing 6") => `(tactic| skip)
set_option maxRecDepth 100000
set_option maxHeartbeats 4000000
local macro_rules | `(tactic| walk_at "eval Name") => `(tactic| (k_here; (fail_if_success (with_reducible show wpAny _ _ (eval (Expr.Name _ _) (compEnvC _ _ _ _)) _ _ _)); k_dflt (refine nameX_L (by k_asm) (by assumption) ?_ (by rfl) (by rfl) (by decide))))
local macro_rules | `(tactic| k_mem) => `(tactic| assumption)
local macro_rules | `(tactic| walk_at "CompSrc") => `(tactic| (k_here; k_dflt (refine LCg.CompSrc.range (by rfl) (by k_asm) (by k_asm) (by assumption) (by decide) (n := 3) (by decide) (by exact Nat.le_of_ble_eq_true rfl) ?_); intro g'))
def FlR (xs : List UInt64) (i : Nat) (y : Value) : Prop := ∃ x t, xs[i]? = some x ∧ y = Value.float x t
theorem flts_of {x0 x1 x2 : UInt64} {ys : List Value} (hl : ys.length = 3) (h : ∀ i y, ys[i]? = some y → FlR [x0, x1, x2] i y) : ∃ t0 t1 t2, ys = [Value.float x0 t0, Value.float x1 t1, Value.float x2 t2] := by
  match ys, hl with
  | [y0, y1, y2], _ =>
    obtain ⟨a, ta, e, rfl⟩ := h 0 _ rfl
    obtain ⟨b, tb, f, rfl⟩ := h 1 _ rfl
    obtain ⟨c, tc, g, rfl⟩ := h 2 _ rfl
    simp at e f g
    subst e f g
    exact ⟨_, _, _, rfl⟩
abbrev mixV (x y z : UInt64) : UInt64 := Float64.div (Float64.add (Float64.add x y) z) (Float64.ofInt 2)
local macro_rules | `(tactic| walk_at "CompEnd") => `(tactic| (k_dflt (refine LCg.CompEnd.intro (by assumption) (by assumption) _ ?sub ?off ?S (And.intro rfl ?R); (case sub => kcf_all); (case off => assumption); (case S => exact True.intro); (case R => exact ⟨_, _, rfl, rfl⟩))))
theorem t1 : ∀ (w : World) (p : Program) (loose : List Str) (mean : ExcName → Option Value) (mg mb : Str → Option Value) (c1 c2 c3 c4 c5 c6 c7 : Addr) (o5 o6 o7 : Obj) (m : Str → Option Value) (news : List (Addr × Obj)) (ra rb rc : Addr) (x0 x1 x2 y0 y1 y2 z0 z1 z2 : UInt64) (q0 q1 q2 q3 q4 q5 q6 q7 q8 : Tok),
    o5.data = .cell (some (.ref rc)) → o6.data = .cell (some (.ref rb)) → o7.data = .cell (some (.ref ra)) → 
    (rc, tupO [.float x0 q0, .float x1 q1, .float x2 q2]) ∈ news → (rb, tupO [.float y0 q3, .float y1 q4, .float y2 q5]) ∈ news → (ra, tupO [.float z0 q6, .float z1 q7, .float z2 q8]) ∈ news →
    Blk w p loose mean mg mb 2 ⟨c1, c2, c3, c4, c5, c6, c7⟩ (tAt 1) m ((c7, o7) :: (c6, o6) :: (c5, o5) :: news) (fun _ => True) (fun h₀ L s Q =>
      ∀ (MA : Addr) (t0 t1 t2 : Tok) (ep : Nat) (h' : Heap) (tk' : Nat), Fr h₀ L h' (fun y => if y = Str.ofString "mix" then some (.ref MA) else m y) → News h₀ L h' ((MA, W.listOf #[.float (mixV x0 y0 z0) t0, .float (mixV x1 y1 z1) t1, .float (mixV x2 y2 z2) t2] ep) :: (c7, o7) :: (c6, o6) :: (c5, o5) :: news) →
        Q .next { s with heap := h', toks := tk' }) := by
  dsimp only [Blk, Cs.cl]
  k_fill
  w_top off
  intro w p loose mean mg mb c1 c2 c3 c4 c5 c6 c7 o5 o6 o7 m news ra rb rc x0 x1 x2 y0 y1 y2 z0 z1 z2 q0 q1 q2 q3 q4 q5 q6 q7 q8 h5 h6 h7 hrc hrb hra dp un gd ad ccd outer A₀ base h₀ L s Q E B F X N T _ hdp hu hpo hret
  with_unfolding_all show wpAny _ _ (exec (Stmt.Assign _ _ _) _) _ _ _
  k_here
  k_dflt (refine LCg.Assign_ListComp_U (F₀ := by k_asm) (by rfl) (by with_unfolding_all rfl) (by with_unfolding_all rfl) (by decide) (by rfl) (by decide) (by rfl) (by rfl) (by rfl) ?_)
  k_dflt lcg_toSrc
  refine rest_all (FlR [mixV x0 y0 z0, mixV x1 y1 z1, mixV x2 y2 z2]) _ ?_ ?_
  · intro i v I oI C oC D' ys m₂ h tk E' hi hv hC hx F' N' off ne
    obtain ⟨tv, rfl⟩ := hv
    have hi3 : i = 0 ∨ i = 1 ∨ i = 2 := lt3 hi
    clear hi
    rcases hi3 with rfl | rfl | rfl
    · k_steps
    · k_steps
    · k_steps
  · intro ys hl hR
    obtain ⟨t0, t1, t2, rfl⟩ := flts_of hl hR
    unfold LCg.FinA
    intro D' h' tk' F' N' off
    exact hret D' t0 t1 t2 3 _ _ F' N'
end Mine

end

section
open PySem PySem.W PyProof.Rows PySem.Calls
namespace Mine
local macro_rules | `(tactic| walk_at "nothing 0") => `(tactic| skip)
local macro_rules | `(tactic| walk_at "nothing 1") => `(tactic| skip)
local macro_rules | `(tactic| walk_at "nothing 2") => `(tactic| skip)
local macro_rules | `(tactic| walk_at "nothing 3") => `(tactic| skip)
local macro_rules | `(tactic| walk_at "nothing 4") => `(tactic| skip)
local macro_rules | `(tactic| walk_at "nothing 5") => `(tactic| skip)
local macro_rules | `(tactic| walk_at "nothing 6") => `(tactic| skip)
local macro_rules | `(tactic| walk_at "nothing 7") => `(tactic| skip)
local macro_rules | `(tactic| walk_at "nothing 8") => `(tactic| skip)
local macro_rules | `(tactic| walk_at "nothing 9") => `(tactic| skip)
local macro_rules | `(tactic| walk_at "nothing 10") => `(tactic| skip)
local macro_rules | `(tactic| walk_at "nothing 11") => `(tactic| skip)
local macro_rules | `(tactic| walk_at "nothing 12") => `(tactic| skip)
local macro_rules | `(tactic| walk_at "nothing 13") => `(tactic| skip)
set_option maxRecDepth 100000
set_option maxHeartbeats 4000000
local macro_rules | `(tactic| walk_at "eval Name") => `(tactic| (k_here; (fail_if_success (with_reducible show wpAny _ _ (eval (Expr.Name _ _) (compEnvC _ _ _ _)) _ _ _)); k_dflt (refine nameX_L (by k_asm) (by assumption) ?_ (by rfl) (by rfl) (by decide))))
local macro_rules | `(tactic| k_mem) => `(tactic| assumption)
local macro_rules | `(tactic| walk_at "subscriptTail Name Name ref int") => `(tactic| (k_here; k_dflt (refine item_at (News.isList (by k_asm) (by k_mem)) (by assumption) (lt63 (by assumption)) (by assumption) ?_ (by with_unfolding_all rfl))))
theorem t2 : ∀ (w : World) (p : Program) (loose : List Str) (mean : ExcName → Option Value) (mg mb : Str → Option Value) (cs : Cs) (m : Str → Option Value) (news : List (Addr × Obj)) (a b c xa xb xc : Int) (ta tb tc t1 t2 t3 t4 : Tok) (D : Addr) (vs : List Value),
    m (Str.ofString "numbers") = some (.ref D) → m (Str.ofString "a") = some (.int a ta) → m (Str.ofString "b") = some (.int b tb) → m (Str.ofString "c") = some (.int c tc) →
    (D, W.listOf vs.toArray vs.length) ∈ news → 0 ≤ a → a < 7 → 0 ≤ b → b < 7 → 0 ≤ c → c < 7 → vs[a.toNat]? = some (.int xa t1) → vs[b.toNat]? = some (.int xb t2) → vs[c.toNat]? = some (.int xc t3) →
    Blk w p loose mean mg mb 2 cs (tAt 2) m news (fun _ => True) (fun h₀ L s Q =>
      ∀ (t : Tok) (h' : Heap) (tk' : Nat), Fr h₀ L h' (fun y => if y = Str.ofString "thirds" then some (.int (Int.fmod (xa + xb + xc) 3) t) else m y) → News h₀ L h' news →
        Q .next { s with heap := h', toks := tk' }) := by
  dsimp only [Blk, Cs.cl]
  k_fill
  w_top off
  intro w p loose mean mg mb cs m news a b c xa xb xc ta tb tc t1 t2 t3 t4 D vs hm1 hm2 hm3 hm4 hD ha0 ha7 hb0 hb7 hc0 hc7 hxa hxb hxc dp un gd ad ccd outer A₀ base h₀ L s Q E B F X N T _ hdp hu hpo hret
  with_unfolding_all show wpAny _ _ (exec (Stmt.Assign _ _ _) _) _ _ _
  k_steps
  exact hret _ _ _ (by k_asm) (by k_asm)
local macro_rules | `(tactic| walk_at "call builtin:list.append") => `(tactic| (k_here; (with_reducible show wpAny _ _ (call (Value.builtin _) [Value.ref _, _]) _ _ _); k_dflt (refine' append_K ?k1 ?k2 ?k3 ?_ ?z; (case k1 => k_asm); (case k2 => k_asm); (case k3 => exact Upd.head (by assumption)); (case z => assumption)); intro h' F' N'; (try dsimp only); (try k_sweep)))
theorem t4 : ∀ (w : World) (p : Program) (loose : List Str) (mean : ExcName → Option Value) (mg mb : Str → Option Value) (cs : Cs) (m : Str → Option Value) (rest : List (Addr × Obj)) (TH : Addr) (th : Array Value) (ep : Nat) (v : Int) (t : Tok),
    m (Str.ofString "threes") = some (.ref TH) → m (Str.ofString "thirds") = some (.int v t) → (∀ p ∈ rest, p.1 ≠ TH) → th.size ≤ sizeLine →
    Blk w p loose mean mg mb 2 cs (tAt 4) m ((TH, W.listOf th ep) :: rest) (fun _ => True) (fun h₀ L s Q =>
      ∀ (ep' : Nat) (h' : Heap) (tk' : Nat), Fr h₀ L h' m → News h₀ L h' ((TH, W.listOf (th.push (.int v t)) ep') :: rest) →
        Q .next { s with heap := h', toks := tk' }) := by
  dsimp only [Blk, Cs.cl]
  k_fill
  w_top off
  intro w p loose mean mg mb cs m rest TH th ep v t hm1 hm2 hrest hsz dp un gd ad ccd outer A₀ base h₀ L s Q E B F X N T _ hdp hu hpo hret
  with_unfolding_all show wpAny _ _ (exec (Stmt.Expr _ _) _) _ _ _
  k_steps
  exact hret _ _ _ (by k_asm) (by k_asm)
end Mine

end

section
open PySem PySem.W PyProof.Rows PySem.Calls
namespace Mine
set_option maxRecDepth 100000
set_option maxHeartbeats 4000000
local macro_rules | `(tactic| walk_at "eval Name") => `(tactic| (k_here; (fail_if_success (with_reducible show wpAny _ _ (eval (Expr.Name _ _) (compEnvC _ _ _ _)) _ _ _)); k_dflt (refine nameX_L (by k_asm) (by assumption) ?_ (by rfl) (by rfl) (by decide))))
local macro_rules | `(tactic| k_mem) => `(tactic| assumption)
local macro_rules | `(tactic| walk_at "call ref") => `(tactic| (k_here; (with_reducible show wpAny _ _ (call (Value.ref 57) [Value.float _ _, Value.float _ _, Value.float _ _, Value.int _ _]) _ _ _); k_dflt (refine' hue_call _ _ _ _ _ _ _ _ _ _ _ _ _ _ _ ?z0 ?z1 ?z2 _ _ _ _ _ _ _ _ _ _ _ _ _ _ _ _ _ ?k1 ?k2 ?k3 ?k4 ?k5 ?kK ?kd ?ku ?_; (case z0 => assumption); (case z1 => assumption); (case z2 => decide); (case k1 => k_asm); (case k2 => k_asm); (case k3 => k_asm); (case k4 => k_asm); (case k5 => k_asm); (case kK => first | exact rfl | assumption); (case kd => ktr_room); (case ku => ktr_units); intro t9 h9 tk9 F9 N9; (try dsimp only); (try k_fold))))
theorem t3 : ∀ (w : World) (p : Program) (loose : List Str) (mean : ExcName → Option Value) (mg mb : Str → Option Value) (cs : Cs) (m : Str → Option Value) (news : List (Addr × Obj)) (MA : Addr) (x y z : UInt64) (q0 q1 q2 t : Tok) (ep : Nat) (v : Int),
    m (Str.ofString "mix") = some (.ref MA) → m (Str.ofString "thirds") = some (.int v t) → okF x y z = true → Float64.isFinite (hueX x y z 12) = true → 0 ≤ v → v < 3 → Int.fmod (hueN x y z 12) 4 = [(0 : Int), 1, 3].getD v.toNat 0 →
    Blk w p loose mean mg mb 4 cs (tAt 3) m ((MA, W.listOf #[.float x q0, .float y q1, .float z q2] ep) :: news) (fun _ => True) (fun h₀ L s Q =>
      ∀ (h' : Heap) (tk' : Nat), Fr h₀ L h' m → News h₀ L h' ((MA, W.listOf #[.float x q0, .float y q1, .float z q2] ep) :: news) → 
        Q .next { s with heap := h', toks := tk' }) := by
  dsimp only [Blk, Cs.cl]
  k_fill
  w_top off
  intro w p loose mean mg mb cs m news MA x y z q0 q1 q2 t ep v hm1 hm2 hok hfin hv0 hv3 hval dp un gd ad ccd outer A₀ base h₀ L s Q E B F X N T _ hdp hu hpo hret
  with_unfolding_all show wpAny _ _ (exec (Stmt.If _ _ _ _) _) _ _ _
  k_steps
  · exact absurd hval (by assumption)
  · rename News _ _ _ _ => N9
    exact hret _ _ (by k_asm) (cb_drop N9 (by intro p hp; exact .tail _ hp))
end Mine

end

section
open PySem PySem.W PyProof.Rows PySem.Calls PySem.Spec
namespace Mine
def lampT : List (UInt64 × UInt64 × UInt64) := [(4598175219545276416, 0, 0), (0, 4598175219545276416, 0), (0, 0, 4598175219545276416),
  (4600427019358961664, 4593671619917905920, 4593671619917905920), (4593671619917905920, 4600427019358961664, 4593671619917905920), (4593671619917905920, 4593671619917905920, 4600427019358961664),
  (4603804719079489536, 4600427019358961664, 4600427019358961664), (4600427019358961664, 4603804719079489536, 4600427019358961664), (4600427019358961664, 4600427019358961664, 4603804719079489536)]
def kindL (n : Nat) : Nat := n % 3 + 3 * (n / 9)
theorem lampT_all : ((List.range 27).all fun n => decide (LampOf (n : Int) = lampT.getD (kindL n) (0, 0, 0))) = true := by decide +kernel
def VT : List UInt64 := [0, 4593671619917905920, 4598175219545276416, 4600427019358961664, 4602678819172646912, 4603804719079489536]
def MT : List UInt64 := [0, 4589168020290535424, 4593671619917905920, 4595923419731591168, 4598175219545276416, 4599301119452119040, 4600427019358961664, 4601552919265804288, 4602678819172646912, 4603241769126068224, 4603804719079489536, 4604367669032910848, 4604930618986332160, 4605493568939753472, 4606056518893174784, 4606619468846596096]
def HT : List UInt64 := [4620974692658839552, 4620130267728707584, 4617878467915022336, 4616752568008179712, 4621537642612260864, 4602678819172646912, 4615063718147915776, 0, 4622663542519103488, 4609434218613702656, 0, 0, 4602678819172646912, 0, 0, 0]
def Vn (n : Nat) : UInt64 := VT.getD n 0
def Mn (n : Nat) : UInt64 := MT.getD n 0
/-- how pale a kind of lamp is; whether its hue is the h-th -/
def pale (i : Nat) : Nat := [0, 1, 3].getD (i / 3) 0
def isH (h i : Nat) : Nat := if i % 3 = h then 1 else 0
def chan (h i : Nat) : Nat := pale i + 2 * isH h i
theorem chan_all : ((List.range 9).all fun i => decide (lampT.getD i (0, 0, 0) = (Vn (chan 0 i), Vn (chan 1 i), Vn (chan 2 i)))) = true := by decide +kernel
theorem mixV_all : ((List.range 6).all fun a => (List.range 6).all fun b => (List.range 6).all fun c => decide (mixV (Vn a) (Vn b) (Vn c) = Mn (a + b + c))) = true := by decide +kernel
theorem okF_all : ((List.range 10).all fun m => (List.range 4).all fun c1 => (List.range 4).all fun c2 => Nat.blt 3 (c1 + c2) || okF (Mn (m + 2 * c1)) (Mn (m + 2 * c2)) (Mn (m + 2 * (3 - c1 - c2)))) = true := by decide +kernel
theorem hue_all : ((List.range 10).all fun m => (List.range 4).all fun c1 => (List.range 4).all fun c2 => Nat.blt 3 (c1 + c2) || decide (hueX (Mn (m + 2 * c1)) (Mn (m + 2 * c2)) (Mn (m + 2 * (3 - c1 - c2))) 12 = HT.getD (4 * c1 + c2) 0)) = true := by decide +kernel
theorem ht_all : ((List.range 4).all fun c1 => (List.range 4).all fun c2 => Nat.blt 3 (c1 + c2) || (Float64.isFinite (HT.getD (4 * c1 + c2) 0) && decide (Int.fmod (Flt.toInt Float64.truncOf (HT.getD (4 * c1 + c2) 0)) 4 = [(0 : Int), 1, 3].getD ((c2 + 2 * (3 - c1 - c2)) % 3) 0))) = true := by decide +kernel
theorem all3 {f : Nat → Nat → Nat → Bool} {l m n : Nat} (h : ((List.range l).all fun a => (List.range m).all fun b => (List.range n).all fun c => f a b c) = true) {a b c : Nat} (ha : a < l) (hb : b < m) (hc : c < n) : f a b c = true :=
  List.all_eq_true.mp (List.all_eq_true.mp (List.all_eq_true.mp h a (List.mem_range.mpr ha)) b (List.mem_range.mpr hb)) c (List.mem_range.mpr hc)
theorem not_blt {a b : Nat} (h : a ≤ b) : Nat.blt b a = false := by
  cases e : Nat.blt b a
  · rfl
  · exact absurd (Nat.le_of_ble_eq_true e) (by omega)
theorem mix_lit {m c1 c2 c3 : Nat} (hm : m < 10) (h : c1 + c2 + c3 = 3) : okF (Mn (m + 2 * c1)) (Mn (m + 2 * c2)) (Mn (m + 2 * c3)) = true ∧ Float64.isFinite (hueX (Mn (m + 2 * c1)) (Mn (m + 2 * c2)) (Mn (m + 2 * c3)) 12) = true ∧
    Int.fmod (hueN (Mn (m + 2 * c1)) (Mn (m + 2 * c2)) (Mn (m + 2 * c3)) 12) 4 = [(0 : Int), 1, 3].getD ((c2 + 2 * c3) % 3) 0 := by
  have e : c3 = 3 - c1 - c2 := by omega
  subst e
  have q1 := all3 okF_all hm (show c1 < 4 by omega) (show c2 < 4 by omega)
  have q2 := all3 hue_all hm (show c1 < 4 by omega) (show c2 < 4 by omega)
  have q3 := List.all_eq_true.mp (List.all_eq_true.mp ht_all c1 (List.mem_range.mpr (by omega))) c2 (List.mem_range.mpr (by omega))
  simp only [not_blt (show c1 + c2 ≤ 3 by omega), Bool.false_or] at q1 q2 q3
  simp only [Bool.and_eq_true, decide_eq_true_eq] at q3
  have q2' := of_decide_eq_true q2
  refine ⟨q1, ?_, ?_⟩
  · rw [q2']; exact q3.1
  · unfold hueN; rw [q2']; exact q3.2
def mixOk (p q r : UInt64 × UInt64 × UInt64) (t : Nat) : Prop :=
  okF (mixV p.1 q.1 r.1) (mixV p.2.1 q.2.1 r.2.1) (mixV p.2.2 q.2.2 r.2.2) = true ∧ Float64.isFinite (hueX (mixV p.1 q.1 r.1) (mixV p.2.1 q.2.1 r.2.1) (mixV p.2.2 q.2.2 r.2.2) 12) = true ∧
    Int.fmod (hueN (mixV p.1 q.1 r.1) (mixV p.2.1 q.2.1 r.2.1) (mixV p.2.2 q.2.2 r.2.2) 12) 4 = [(0 : Int), 1, 3].getD t 0
theorem lamp_chan {i : Nat} (h : i < 9) : lampT.getD i (0, 0, 0) = (Vn (chan 0 i), Vn (chan 1 i), Vn (chan 2 i)) := of_decide_eq_true (List.all_eq_true.mp chan_all i (List.mem_range.mpr h))
theorem pale_le {i : Nat} (h : i < 9) : pale i ≤ 3 := by
  have h3 : i / 3 = 0 ∨ i / 3 = 1 ∨ i / 3 = 2 := by omega
  unfold pale
  rcases h3 with e | e | e <;> rw [e] <;> decide
theorem isH_le (h i : Nat) : isH h i ≤ 1 := by unfold isH; split <;> omega
theorem isH_sum {i : Nat} : isH 0 i + isH 1 i + isH 2 i = 1 := by
  have h3 : i % 3 = 0 ∨ i % 3 = 1 ∨ i % 3 = 2 := by omega
  unfold isH
  rcases h3 with e | e | e <;> rw [e] <;> decide
theorem isH_rest {i : Nat} : isH 1 i + 2 * isH 2 i = i % 3 := by
  have h3 : i % 3 = 0 ∨ i % 3 = 1 ∨ i % 3 = 2 := by omega
  unfold isH
  rcases h3 with e | e | e <;> rw [e] <;> decide
theorem chan_lt {h i : Nat} (hi : i < 9) : chan h i < 6 := by
  have a := pale_le hi
  have b := isH_le h i
  unfold chan
  omega
theorem mixV_key {h i j k : Nat} (hi : i < 9) (hj : j < 9) (hk : k < 9) : mixV (Vn (chan h i)) (Vn (chan h j)) (Vn (chan h k)) = Mn (chan h i + chan h j + chan h k) := by
  have q := all3 mixV_all (chan_lt (h := h) hi) (chan_lt (h := h) hj) (chan_lt (h := h) hk)
  exact of_decide_eq_true q
theorem mixOk_of {a b c a' b' c' a'' b'' c'' x y z : UInt64} {t t' : Nat} (hx : mixV a a' a'' = x) (hy : mixV b b' b'' = y) (hz : mixV c c' c'' = z) (ht : t = t')
    (H : okF x y z = true ∧ Float64.isFinite (hueX x y z 12) = true ∧ Int.fmod (hueN x y z 12) 4 = [(0 : Int), 1, 3].getD t' 0) : mixOk (a, b, c) (a', b', c') (a'', b'', c'') t := by
  subst hx hy hz ht; exact H
theorem mixV_pale {h i j k n : Nat} (hi : i < 9) (hj : j < 9) (hk : k < 9) (hn : chan h i + chan h j + chan h k = n) : mixV (Vn (chan h i)) (Vn (chan h j)) (Vn (chan h k)) = Mn n := hn ▸ mixV_key hi hj hk
theorem rest_sum {i j k : Nat} : (i + j + k) % 3 = ((isH 1 i + isH 1 j + isH 1 k) + 2 * (isH 2 i + isH 2 j + isH 2 k)) % 3 := by
  have e1 : (i + j + k) % 3 = (i % 3 + j % 3 + k % 3) % 3 := by omega
  rw [e1, ← @isH_rest i, ← @isH_rest j, ← @isH_rest k]
  congr 1
  clear e1
  omega
theorem pale_sum {i j k : Nat} (hi : i < 9) (hj : j < 9) (hk : k < 9) : pale i + pale j + pale k < 10 := by
  have a := pale_le hi
  have b := pale_le hj
  have c := pale_le hk
  clear hi hj hk
  omega
theorem hues_sum {i j k : Nat} : (isH 0 i + isH 0 j + isH 0 k) + (isH 1 i + isH 1 j + isH 1 k) + (isH 2 i + isH 2 j + isH 2 k) = 3 := by
  have s1 := @isH_sum i
  have s2 := @isH_sum j
  have s3 := @isH_sum k
  omega
theorem chan_sum {i j k : Nat} (h : Nat) : chan h i + chan h j + chan h k = (pale i + pale j + pale k) + 2 * (isH h i + isH h j + isH h k) := by unfold chan; omega
theorem mix_at {i j k : Nat} (hi : i < 9) (hj : j < 9) (hk : k < 9) : mixOk (lampT.getD i (0, 0, 0)) (lampT.getD j (0, 0, 0)) (lampT.getD k (0, 0, 0)) ((i + j + k) % 3) := by
  rw [lamp_chan hi, lamp_chan hj, lamp_chan hk]
  exact mixOk_of (mixV_pale hi hj hk (chan_sum 0)) (mixV_pale hi hj hk (chan_sum 1)) (mixV_pale hi hj hk (chan_sum 2)) rest_sum (mix_lit (pale_sum hi hj hk) hues_sum)
def oneOk (p : UInt64 × UInt64 × UInt64) (t : Nat) : Bool := okF p.1 p.2.1 p.2.2 && Float64.isFinite (hueX p.1 p.2.1 p.2.2 3) && decide (Int.fmod (hueN p.1 p.2.1 p.2.2 3) 3 = t)
theorem one_all : ((List.range 9).all fun i => oneOk (lampT.getD i (0, 0, 0)) (i % 3)) = true := by decide +kernel
theorem kindL_lt {n : Nat} (h : n < 27) : kindL n < 9 := by unfold kindL; omega
theorem lamp_at {x : Int} (h : 0 ≤ x ∧ x < 27) : LampOf x = lampT.getD (kindL x.toNat) (0, 0, 0) := by
  have q := List.all_eq_true.mp lampT_all x.toNat (List.mem_range.mpr (by omega))
  rw [show ((x.toNat : Nat) : Int) = x by omega] at q
  exact of_decide_eq_true q
theorem kindL_mod (n : Nat) : kindL n % 3 = n % 3 := by unfold kindL; omega
theorem kind_sum (a b c : Nat) : (kindL a + kindL b + kindL c) % 3 = (c + b + a) % 3 := by
  have e1 : (kindL a + kindL b + kindL c) % 3 = (kindL a % 3 + kindL b % 3 + kindL c % 3) % 3 := by omega
  rw [e1, kindL_mod, kindL_mod, kindL_mod]
  clear e1
  omega
theorem fmod_nat (a b c : Nat) : (Int.fmod ((c : Int) + (b : Int) + (a : Int)) 3).toNat = (c + b + a) % 3 := by
  rw [Int.fmod_eq_emod_of_nonneg _ (by decide)]
  omega
theorem mix_ok {x y z : Int} (hx : 0 ≤ x ∧ x < 27) (hy : 0 ≤ y ∧ y < 27) (hz : 0 ≤ z ∧ z < 27) : mixOk (LampOf x) (LampOf y) (LampOf z) (Int.fmod (z + y + x) 3).toNat := by
  obtain ⟨a, rfl⟩ := Int.eq_ofNat_of_zero_le hx.1
  obtain ⟨b, rfl⟩ := Int.eq_ofNat_of_zero_le hy.1
  obtain ⟨c, rfl⟩ := Int.eq_ofNat_of_zero_le hz.1
  have ha : a < 27 := by omega
  have hb : b < 27 := by omega
  have hc : c < 27 := by omega
  have q := mix_at (kindL_lt ha) (kindL_lt hb) (kindL_lt hc)
  rw [kind_sum] at q
  rw [fmod_nat, lamp_at hx, lamp_at hy, lamp_at hz]
  exact q
theorem one_ok {x : Int} (hx : 0 ≤ x ∧ x < 27) : oneOk (LampOf x) (x.toNat % 3) = true := by
  rw [lamp_at hx, ← kindL_mod]
  exact List.all_eq_true.mp one_all (kindL x.toNat) (List.mem_range.mpr (kindL_lt (by omega)))
end Mine

end

section
open PySem PySem.W PyProof.Rows PySem.Calls PySem.Spec
namespace Mine
set_option maxRecDepth 100000
theorem mem_trip {a b c : Nat} (h : c < b ∧ b < a ∧ a < 7) : (a, b, c) ∈ trip := by
  unfold trip
  rw [List.mem_flatMap]
  refine ⟨a, List.mem_range.mpr h.2.2, ?_⟩
  rw [List.mem_flatMap]
  refine ⟨b, List.mem_range.mpr h.2.1, ?_⟩
  rw [List.mem_map]
  exact ⟨c, List.mem_range.mpr h.1, rfl⟩
theorem trip_words {a b c : Nat} (h : c < b ∧ b < a ∧ a < 7) : Txt.split (prettyS (2 ^ ((a : Nat) : Int).toNat + 2 ^ ((b : Nat) : Int).toNat + 2 ^ ((c : Nat) : Int).toNat)) (Str.ofString ", ") = [nm c, nm b, nm a] ∧
    (prettyS (2 ^ ((a : Nat) : Int).toNat + 2 ^ ((b : Nat) : Int).toNat + 2 ^ ((c : Nat) : Int).toNat)).length + 2 ≤ sizeLine ∧
    (0 < (2 : Int) ^ ((a : Nat) : Int).toNat + 2 ^ ((b : Nat) : Int).toNat + 2 ^ ((c : Nat) : Int).toNat ∧ (2 : Int) ^ ((a : Nat) : Int).toNat + 2 ^ ((b : Nat) : Int).toNat + 2 ^ ((c : Nat) : Int).toNat < 128) := by
  have q := List.all_eq_true.mp split3_all (a, b, c) (mem_trip h)
  simp only [Bool.and_eq_true, decide_eq_true_eq] at q
  simp only [Int.toNat_natCast]
  refine ⟨q.1.1, ?_, q.2⟩
  rw [sizeLine_eq]
  have := q.1.2
  unfold num3 at this
  exact Nat.le_trans (Nat.add_le_add_right this 2) (by decide)
theorem trip_ell {a b c : Nat} (h : c < b ∧ b < a ∧ a < 7) {d : Int} (h0 : 0 ≤ d) (h6 : d ≤ 6) :
    ellB (wantS (nm c) (nm a) d) (gotS [nm c, nm b, nm a]) (nm c) (dotsS (d.toNat % 3) ++ nm a) (d.toNat / 3) (d.toNat % 3 == 0) = true := by
  have q := ell3_all (mem_trip h) (d := d.toNat) (by omega)
  unfold ell3 words3 at q
  rw [show ((d.toNat : Nat) : Int) = d by omega] at q
  exact q
theorem sev_ell {d : Int} (h0 : 0 ≤ d) (h12 : d ≤ 12) :
    ellB (wantS (Str.ofString "OPTIMIZED") (Str.ofString "NOFREE") d) (gotS [Str.ofString "OPTIMIZED", Str.ofString "NEWLOCALS", Str.ofString "VARARGS", Str.ofString "VARKEYWORDS", Str.ofString "NESTED", Str.ofString "GENERATOR", Str.ofString "NOFREE"]) (Str.ofString "OPTIMIZED") (dotsS (d.toNat % 3) ++ nm 6) (d.toNat / 3) (d.toNat % 3 == 0) = true := by
  have q := List.all_eq_true.mp ell7_all d.toNat (List.mem_range.mpr (by omega))
  unfold ell7 at q
  rw [show ((d.toNat : Nat) : Int) = d by omega] at q
  exact q
theorem ints_get : ∀ {vs : List Value} {ns : List Int}, IntsAre vs ns → ∀ {i : Nat}, i < ns.length → ∃ t, vs[i]? = some (Value.int (ns.getD i 0) t)
  | _, _, .nil, _, h => absurd h (Nat.not_lt_zero _)
  | _, _, .cons n t _, 0, _ => ⟨t, rfl⟩
  | _, _, .cons n t r, i + 1, h => by
    obtain ⟨t', e⟩ := ints_get r (i := i) (by simpa using h)
    exact ⟨t', by simpa using e⟩
theorem xat_bound {xs : List Int} (hl : xs.length = 7) (hb : ∀ x ∈ xs, 0 ≤ x ∧ x < 27) {i : Nat} (h : i < 7) : 0 ≤ xat xs i ∧ xat xs i < 27 := by
  unfold xat
  rw [List.getD_eq_getElem?_getD, List.getElem?_eq_getElem (by omega), Option.getD_some]
  exact hb _ (List.getElem_mem _)
theorem dot_get {xs : List Int} (hl : xs.length = 7) {i : Nat} (h : i < 7) : (xs.map dot).getD i 0 = dot (xat xs i) := by
  unfold xat
  rw [List.getD_eq_getElem?_getD, List.getD_eq_getElem?_getD, List.getElem?_map, List.getElem?_eq_getElem (by omega)]
  rfl
theorem dot_bound (x : Int) : 0 ≤ dot x ∧ dot x ≤ 2 := by
  unfold dot
  rw [Int.fmod_eq_emod_of_nonneg _ (by decide)]
  omega
theorem taken_eq {d e : Int} (h : 0 ≤ d) (he : d = e) : (d.toNat % 3 == 0) = decide (Int.fmod e 3 = 0) := by
  subst he
  rw [Int.fmod_eq_emod_of_nonneg _ (by decide)]
  by_cases q : d.toNat % 3 = 0
  · rw [q, decide_eq_true (by omega)]; rfl
  · rw [decide_eq_false (by omega)]; simpa using q
theorem nm_len (i : Nat) : (nm i).length ≤ 20 := Nat.le_trans (flag_len i) (by decide)
end Mine

end

section
open PySem PySem.W PyProof.Rows PySem.Calls
namespace Mine
set_option maxRecDepth 100000
set_option maxHeartbeats 4000000
/-- what the loops lean on and leave alone: the ledger's rest -/
structure Stat (xs : List Int) (c4 c5 c6 c7 D DA LA PA TH : Addr) (o4 po : Obj) (vs ds rs : List Value) (rest : List (Addr × Obj)) : Prop where
  nu : (D, W.listOf vs.toArray vs.length) ∈ rest
  dt : (DA, W.listOf ds.toArray ds.length) ∈ rest
  la : (LA, W.listOf rs.toArray rs.length) ∈ rest
  lamp : ∀ i, i < 7 → ∃ a t1 t2 t3, rs[i]? = some (Value.ref a) ∧ (a, lampO (xat xs i) t1 t2 t3) ∈ rest
  pl : (PA, po) ∈ rest
  c4m : (c4, o4) ∈ rest
  off5 : ∀ p ∈ rest, p.1 ≠ c5
  off6 : ∀ p ∈ rest, p.1 ≠ c6
  off7 : ∀ p ∈ rest, p.1 ≠ c7
  offT : ∀ p ∈ rest, p.1 ≠ TH
/-- what is known besides -/
structure Know (xs : List Int) (c4 c5 c6 c7 PA TH : Addr) (o4 po : Obj) (vs ds : List Value) (kvs : List (Str × Value)) : Prop where
  hl : xs.length = 7
  hb : ∀ x ∈ xs, 0 ≤ x ∧ x < 27
  hI : IntsAre vs xs
  hID : IntsAre ds (xs.map dot)
  h4 : o4.data = .cell (some (.ref PA))
  hP : Places kvs
  l56 : @LT.lt Nat _ c5 c6
  l67 : @LT.lt Nat _ c6 c7
  t5 : @Ne Nat c5 TH
  t6 : @Ne Nat c6 TH
  t7 : @Ne Nat c7 TH
theorem d_bound {x y z d : Int} (h : z + y + x = d) (hx : 0 ≤ x ∧ x ≤ 2) (hy : 0 ≤ y ∧ y ≤ 2) (hz : 0 ≤ z ∧ z ≤ 2) : 0 ≤ d ∧ d ≤ 6 := by omega
theorem d_perm {x y z d : Int} (h : z + y + x = d) : d = x + y + z := by omega
theorem le_20 {d : Int} (h : d ≤ 6) : d ≤ 20 := by omega
theorem cast_lt7 {n : Nat} (h : n < 7) : (n : Int) < 7 := by omega
theorem le_size {n : Nat} (h : n ≤ 1000) : n ≤ sizeLine := by rw [sizeLine_eq]; omega
theorem lt_w {a b k l : Nat} (h : a + l < b) (hkl : k ≤ l) : a + k < b := by omega
theorem lt_u {a b k l : Nat} (h : a + 20 * l < b) (hkl : k ≤ l) : a + 20 * k < b := by omega
abbrev ledT (TH c5 c6 c7 : Addr) (ths : List Value) (ep : Nat) (o5 o6 o7 : Obj) (rest : List (Addr × Obj)) : List (Addr × Obj) := (TH, W.listOf ths.toArray ep) :: (c7, o7) :: (c6, o6) :: (c5, o5) :: rest
abbrev put (x : Str) (v : Value) (m : Str → Option Value) : Str → Option Value := fun y => if y = x then some v else m y
/-- the names that the loops leave alone -/
def Kept (m m' : Str → Option Value) : Prop := m' (Str.ofString "numbers") = m (Str.ofString "numbers") ∧ m' (Str.ofString "dots") = m (Str.ofString "dots") ∧ m' (Str.ofString "lamps") = m (Str.ofString "lamps") ∧ m' (Str.ofString "threes") = m (Str.ofString "threes") ∧ m' (Str.ofString "a") = m (Str.ofString "a") ∧ m' (Str.ofString "b") = m (Str.ofString "b")
theorem ints_snoc {vs : List Value} {ns : List Int} {n : Int} {t : Tok} (h : IntsAre vs ns) : IntsAre (vs ++ [Value.int n t]) (ns ++ [n]) := h.append (.cons n t .nil)
theorem bodyC_eq : bodyC = [bAt 0, bAt 1, bAt 2, bAt 3, bAt 4] := by with_unfolding_all rfl
theorem thenB_eq : ifBody (bAt 4) = [tAt 0, tAt 1, tAt 2, tAt 3, tAt 4] := by with_unfolding_all rfl

theorem body_c (w : World) (p : Program) (loose : List Str) (mean : ExcName → Option Value) (mg mb : Str → Option Value) (c1 c2 c3 c4 c5 c6 c7 : Addr) (m : Str → Option Value) (rest : List (Addr × Obj)) (xs : List Int) (D DA LA PA TH : Addr) (o4 po o5 o6 o7 : Obj) (vs ds rs ths : List Value) (kvs : List (Str × Value)) (tn : List Int) (ep : Nat) (z5 z6 z7 : Option Value) (a b c : Nat) (ta tb tc : Tok)
    (st : Stat xs c4 c5 c6 c7 D DA LA PA TH o4 po vs ds rs rest) (kn : Know xs c4 c5 c6 c7 PA TH o4 po vs ds kvs) (hdict : po.IsDictOf (PySem.strKind PySem.Challenge.rw_re0048_01.row.prog w) kvs)
    (hm1 : m (Str.ofString "numbers") = some (.ref D)) (hm2 : m (Str.ofString "dots") = some (.ref DA)) (hm3 : m (Str.ofString "lamps") = some (.ref LA)) (hm4 : m (Str.ofString "threes") = some (.ref TH))
    (hma : m (Str.ofString "a") = some (.int (a : Int) ta)) (hmb : m (Str.ofString "b") = some (.int (b : Int) tb)) (hmc : m (Str.ofString "c") = some (.int (c : Int) tc)) (habc : c < b ∧ b < a ∧ a < 7)
    (h5 : o5.data = .cell z5) (h6 : o6.data = .cell z6) (h7 : o7.data = .cell z7) (hth : IntsAre ths tn) (hsz : tn.length ≤ 1000)
    (dp un : Nat) (gd : Option (List Code)) (ad : Addr) (ccd : Value) (outer : List Env) (A₀ : Around) (base h₀ : Heap) (L : Addr) (s : Shared) (Q : Flow → Shared → Prop) (E : Value → Shared → Prop)
    (B : Below A₀ base outer h₀) (F : Fr h₀ L s.heap m) (X : (hd.heap_39 w.params).In h₀) (N : News h₀ L s.heap (ledT TH c5 c6 c7 ths ep o5 o6 o7 rest)) (T : Top p loose mean mg mb h₀) (hdp : dp + 6 < recursionLimit) (hu : un + 20 * 6 < cLine)
    (hpo : PassesOwn (model PySem.Challenge.rw_re0048_01.row.prog w) (ktrTop dp un gd lawNm lawDef.2 L ad ccd (Cs.cl ⟨c1, c2, c3, c4, c5, c6, c7⟩) outer) (envX lawNm lawDef.2 L ad ccd (Cs.cl ⟨c1, c2, c3, c4, c5, c6, c7⟩)) E)
    (hret : ∀ m' ths' ep' o5' o6' o7' z5' z6' z7' h' tk', Fr h₀ L h' m' → News h₀ L h' (ledT TH c5 c6 c7 ths' ep' o5' o6' o7' rest) → Kept m m' → o5'.data = .cell z5' → o6'.data = .cell z6' → o7'.data = .cell z7' → IntsAre ths' (tn ++ thr xs [(a, b, c)]) →
      Q .next { s with heap := h', toks := tk' }) :
    wpAny (model PySem.Challenge.rw_re0048_01.row.prog w) (ktrTop dp un gd lawNm lawDef.2 L ad ccd (Cs.cl ⟨c1, c2, c3, c4, c5, c6, c7⟩) outer) (execs bodyC (envX lawNm lawDef.2 L ad ccd (Cs.cl ⟨c1, c2, c3, c4, c5, c6, c7⟩))) Q E s := by
  obtain ⟨hcb, hba, ha7⟩ := habc
  have hb7 : b < 7 := Nat.lt_trans hba ha7
  have hc7 : c < 7 := Nat.lt_trans hcb hb7
  have i0 : ∀ n : Nat, (0 : Int) ≤ (n : Int) := Int.natCast_nonneg
  have i7 : ∀ n : Nat, n < 7 → (n : Int) < 7 := fun n h => cast_lt7 h
  obtain ⟨w1, w2, w3⟩ := trip_words ⟨hcb, hba, ha7⟩
  have nat0 : ∀ n : Nat, ((n : Nat) : Int).toNat = n := fun n => Int.toNat_natCast n
  obtain ⟨va, hva⟩ := kn.hP.2 a ha7
  obtain ⟨vb, hvb⟩ := kn.hP.2 b hb7
  obtain ⟨vc, hvc⟩ := kn.hP.2 c hc7
  have xa := xat_bound kn.hl kn.hb ha7
  have xb := xat_bound kn.hl kn.hb hb7
  have xc := xat_bound kn.hl kn.hb hc7
  have da := dot_bound (xat xs a)
  have db := dot_bound (xat xs b)
  have dc := dot_bound (xat xs c)
  have dget : ∀ i, i < 7 → ∃ t, ds[((i : Nat) : Int).toNat]? = some (Value.int (dot (xat xs i)) t) := fun i hi => by
    obtain ⟨t, e⟩ := ints_get kn.hID (i := i) (by rw [List.length_map, kn.hl]; exact hi)
    exact ⟨t, by rw [nat0, e, dot_get kn.hl hi]⟩
  have vget : ∀ i, i < 7 → ∃ t, vs[((i : Nat) : Int).toNat]? = some (Value.int (xat xs i) t) := fun i hi => by
    obtain ⟨t, e⟩ := ints_get kn.hI (i := i) (by rw [kn.hl]; exact hi)
    exact ⟨t, by rw [nat0, e]; rfl⟩
  obtain ⟨eda, hda⟩ := dget a ha7
  obtain ⟨edb, hdb⟩ := dget b hb7
  obtain ⟨edc, hdc⟩ := dget c hc7
  obtain ⟨exa, hxa⟩ := vget a ha7
  obtain ⟨exb, hxb⟩ := vget b hb7
  obtain ⟨exc, hxc⟩ := vget c hc7
  obtain ⟨ra, qa1, qa2, qa3, hra, hram⟩ := st.lamp a ha7
  obtain ⟨rb, qb1, qb2, qb3, hrb, hrbm⟩ := st.lamp b hb7
  obtain ⟨rc, qc1, qc2, qc3, hrc, hrcm⟩ := st.lamp c hc7
  rw [← nat0 a] at hra
  rw [← nat0 b] at hrb
  rw [← nat0 c] at hrc
  generalize hd : dot (xat xs c) + dot (xat xs b) + dot (xat xs a) = d
  obtain ⟨d0, d6⟩ := d_bound hd da db dc
  have hell := trip_ell ⟨hcb, hba, ha7⟩ d0 d6
  have hte : (d.toNat % 3 == 0) = decide (Int.fmod (dot (xat xs a) + dot (xat xs b) + dot (xat xs c)) 3 = 0) := taken_eq d0 (d_perm hd)
  generalize hw : (d.toNat % 3 == 0) = tk at hell hte
  have hthz : ths.toArray.size ≤ sizeLine := by
    rw [List.size_toArray, hth.length]; exact le_size hsz
  rw [bodyC_eq]
  refine wpAny_execs_cons (b0 w p loose mean mg mb ⟨c1, c2, c3, c4, c5, c6, c7⟩ m _ _ _ _ ta tb tc (nm a) (nm b) (nm c) hma hmb hmc ⟨i0 a, i7 a ha7⟩ ⟨i0 b, i7 b hb7⟩ ⟨i0 c, i7 c hc7⟩ w1 w2 w3 dp un gd ad ccd outer A₀ base h₀ L s _ E B F X N T trivial (lt_w hdp (by decide)) (lt_u hu (by decide)) hpo ?_)
  intro WA u0 u1 u2 h1 k1 F1 N1 lW
  dsimp only
  have lW5 : WA ≠ c5 := Nat.ne_of_gt (lW (c5, o5) (.tail _ (.tail _ (.tail _ (.head _)))))
  have lW6 : WA ≠ c6 := Nat.ne_of_gt (lW (c6, o6) (.tail _ (.tail _ (.head _))))
  have lW7 : WA ≠ c7 := Nat.ne_of_gt (lW (c7, o7) (.tail _ (.head _)))
  have inR : ∀ {q : Addr × Obj}, q ∈ rest → q ∈ ledT TH c5 c6 c7 ths ep o5 o6 o7 rest := fun h => .tail _ (.tail _ (.tail _ (.tail _ h)))
  refine wpAny_execs_cons (b1 w p loose mean mg mb c1 c2 c3 c4 c5 c6 c7 (put (Str.ofString "words") (.ref WA) m) (ledT TH c5 c6 c7 ths ep o5 o6 o7 rest) WA u0 u1 u2 a b c va vb vc (nm a) (nm b) (nm c) o4 PA po kvs rfl (inR st.c4m) kn.h4 (inR st.pl) hdict hva hvb hvc lW dp un gd ad ccd outer A₀ base h₀ L _ _ E B F1 X N1 T trivial (lt_w hdp (by decide)) (lt_u hu (by decide)) hpo ?_)
  intro tt0 tt1 tt2 h2 k2 F2 N2
  dsimp only
  refine wpAny_execs_cons (b2 w p loose mean mg mb ⟨c1, c2, c3, c4, c5, c6, c7⟩ (put (Str.ofString "k") (.int (a : Int) tt2) (put (Str.ofString "j") (.int (b : Int) tt1) (put (Str.ofString "i") (.int (c : Int) tt0) (put (Str.ofString "words") (.ref WA) m)))) (ledT TH c5 c6 c7 ths ep o5 o6 o7 rest) WA u0 u1 u2 a b c (dot (xat xs a)) (dot (xat xs b)) (dot (xat xs c)) tt2 tt1 tt0 eda edb edc (nm a) (nm b) (nm c) DA ds (dotsS (d.toNat % 3) ++ nm a) (d.toNat / 3) tk rfl hm2 rfl rfl rfl (.tail _ (inR st.dt)) (i0 a) (i7 a ha7) (i0 b) (i7 b hb7) (i0 c) (i7 c hc7) hda hdb hdc
    (by rw [hd]; exact d0) (by rw [hd]; exact le_20 d6) (nm_len c) (nm_len b) (nm_len a) (by rw [hd]; exact hell) dp un gd ad ccd outer A₀ base h₀ L _ _ E B F2 X N2 T trivial (lt_w hdp (by decide)) (lt_u hu (by decide)) hpo ?_)
  intro h3 k3 F3 N3
  dsimp only
  refine wpAny_execs_cons (b3 w p loose mean mg mb ⟨c1, c2, c3, c4, c5, c6, c7⟩ (put (Str.ofString "taken") (.bool tk) (put (Str.ofString "k") (.int (a : Int) tt2) (put (Str.ofString "j") (.int (b : Int) tt1) (put (Str.ofString "i") (.int (c : Int) tt0) (put (Str.ofString "words") (.ref WA) m))))) _ a b c (dot (xat xs a)) (dot (xat xs b)) (dot (xat xs c)) ta tb tc eda edb edc ta DA ds tk rfl hm2 hma hmb hmc (.tail _ (inR st.dt)) (i0 a) (i7 a ha7) (i0 b) (i7 b hb7) (i0 c) (i7 c hc7) hda hdb hdc hte dp un gd ad ccd outer A₀ base h₀ L _ _ E B F3 X N3 T trivial (lt_w hdp (by decide)) (lt_u hu (by decide)) hpo ?_)
  intro h4 k4 F4 N4
  dsimp only
  have keep : Kept m (put (Str.ofString "taken") (.bool tk) (put (Str.ofString "k") (.int (a : Int) tt2) (put (Str.ofString "j") (.int (b : Int) tt1) (put (Str.ofString "i") (.int (c : Int) tt0) (put (Str.ofString "words") (.ref WA) m))))) := ⟨rfl, rfl, rfl, rfl, rfl, rfl⟩
  refine wpAny_execs_cons (b4 w p loose mean mg mb c1 c2 c3 c4 c5 c6 c7 (put (Str.ofString "taken") (.bool tk) (put (Str.ofString "k") (.int (a : Int) tt2) (put (Str.ofString "j") (.int (b : Int) tt1) (put (Str.ofString "i") (.int (c : Int) tt0) (put (Str.ofString "words") (.ref WA) m))))) _ tk rfl dp un gd ad ccd outer A₀ base h₀ L _ _ E B F4 X N4 T (fun htk => ?_) (fun htk => ?_))
  · rw [thenB_eq]
    have hfm : 0 ≤ Int.fmod (xat xs a + xat xs b + xat xs c) 3 ∧ Int.fmod (xat xs a + xat xs b + xat xs c) 3 < 3 := ⟨fmod_lo _ (by decide), fmod_hi _ (by decide)⟩
    have hmix := mix_ok xc xb xa
    obtain ⟨hk1, hk2, hk3⟩ := hmix
    have N5 := cb_drop (news := (c7, o7) :: (c6, o6) :: (c5, o5) :: (TH, W.listOf ths.toArray ep) :: rest) N4 (fun q hq => by
      rcases List.mem_cons.mp hq with rfl | hq
      · exact .tail _ (.tail _ (.head _))
      rcases List.mem_cons.mp hq with rfl | hq
      · exact .tail _ (.tail _ (.tail _ (.head _)))
      rcases List.mem_cons.mp hq with rfl | hq
      · exact .tail _ (.tail _ (.tail _ (.tail _ (.head _))))
      rcases List.mem_cons.mp hq with rfl | hq
      · exact .tail _ (.head _)
      · exact .tail _ (.tail _ (.tail _ (.tail _ (.tail _ hq)))))
    refine wpAny_execs_cons (t0 w p loose mean mg mb c1 c2 c3 c4 c5 c6 c7 o5 o6 o7 z5 z6 z7 (put (Str.ofString "taken") (.bool tk) (put (Str.ofString "k") (.int (a : Int) tt2) (put (Str.ofString "j") (.int (b : Int) tt1) (put (Str.ofString "i") (.int (c : Int) tt0) (put (Str.ofString "words") (.ref WA) m))))) ((TH, W.listOf ths.toArray ep) :: rest) a b c ra rb rc tt2 tt1 tt0 LA rs hm3 rfl rfl rfl (.tail _ st.la) (i0 a) (i7 a ha7) (i0 b) (i7 b hb7) (i0 c) (i7 c hc7) hra hrb hrc h5 h6 h7 kn.l56 kn.l67
      (List.forall_mem_cons.mpr ⟨Ne.symm kn.t5, st.off5⟩) (List.forall_mem_cons.mpr ⟨Ne.symm kn.t6, st.off6⟩) (List.forall_mem_cons.mpr ⟨Ne.symm kn.t7, st.off7⟩) dp un gd ad ccd outer A₀ base h₀ L _ _ E B F4 X N5 T trivial (lt_w hdp (by decide)) (lt_u hu (by decide)) hpo ?_)
    intro p5 p6 p7 h6' k6 F6 N6 e5 e6 e7
    dsimp only
    refine wpAny_execs_cons (t1 w p loose mean mg mb c1 c2 c3 c4 c5 c6 c7 p5 p6 p7 (put (Str.ofString "taken") (.bool tk) (put (Str.ofString "k") (.int (a : Int) tt2) (put (Str.ofString "j") (.int (b : Int) tt1) (put (Str.ofString "i") (.int (c : Int) tt0) (put (Str.ofString "words") (.ref WA) m))))) ((TH, W.listOf ths.toArray ep) :: rest) ra rb rc _ _ _ _ _ _ _ _ _ qc1 qc2 qc3 qb1 qb2 qb3 qa1 qa2 qa3 e5 e6 e7 (.tail _ hrcm) (.tail _ hrbm) (.tail _ hram) dp un gd ad ccd outer A₀ base h₀ L _ _ E B F6 X N6 T trivial (lt_w hdp (by decide)) (lt_u hu (by decide)) hpo ?_)
    intro MA m0 m1 m2 mep h7' k7 F7 N7
    dsimp only
    refine wpAny_execs_cons (t2 w p loose mean mg mb ⟨c1, c2, c3, c4, c5, c6, c7⟩ (put (Str.ofString "mix") (.ref MA) (put (Str.ofString "taken") (.bool tk) (put (Str.ofString "k") (.int (a : Int) tt2) (put (Str.ofString "j") (.int (b : Int) tt1) (put (Str.ofString "i") (.int (c : Int) tt0) (put (Str.ofString "words") (.ref WA) m)))))) _ a b c (xat xs a) (xat xs b) (xat xs c) ta tb tc exa exb exc ta D vs hm1 hma hmb hmc (.tail _ (.tail _ (.tail _ (.tail _ (.tail _ st.nu))))) (i0 a) (i7 a ha7) (i0 b) (i7 b hb7) (i0 c) (i7 c hc7) hxa hxb hxc dp un gd ad ccd outer A₀ base h₀ L _ _ E B F7 X N7 T trivial (lt_w hdp (by decide)) (lt_u hu (by decide)) hpo ?_)
    intro tv h8 k8 F8 N8
    dsimp only
    refine wpAny_execs_cons (t3 w p loose mean mg mb ⟨c1, c2, c3, c4, c5, c6, c7⟩ (put (Str.ofString "thirds") (.int (Int.fmod (xat xs a + xat xs b + xat xs c) 3) tv) (put (Str.ofString "mix") (.ref MA) (put (Str.ofString "taken") (.bool tk) (put (Str.ofString "k") (.int (a : Int) tt2) (put (Str.ofString "j") (.int (b : Int) tt1) (put (Str.ofString "i") (.int (c : Int) tt0) (put (Str.ofString "words") (.ref WA) m))))))) _ MA _ _ _ m0 m1 m2 tv mep _ rfl rfl hk1 hk2 hfm.1 hfm.2 hk3 dp un gd ad ccd outer A₀ base h₀ L _ _ E B F8 X N8 T trivial (lt_w hdp (by decide)) (lt_u hu (by decide)) hpo ?_)
    intro h9 k9 F9 N9
    dsimp only
    have N10 := cb_drop (news := (TH, W.listOf ths.toArray ep) :: (c7, p7) :: (c6, p6) :: (c5, p5) :: rest) N9 (fun q hq => by
      rcases List.mem_cons.mp hq with rfl | hq
      · exact .tail _ (.tail _ (.tail _ (.tail _ (.head _))))
      rcases List.mem_cons.mp hq with rfl | hq
      · exact .tail _ (.head _)
      rcases List.mem_cons.mp hq with rfl | hq
      · exact .tail _ (.tail _ (.head _))
      rcases List.mem_cons.mp hq with rfl | hq
      · exact .tail _ (.tail _ (.tail _ (.head _)))
      · exact .tail _ (.tail _ (.tail _ (.tail _ (.tail _ hq)))))
    refine wpAny_execs_cons (t4 w p loose mean mg mb ⟨c1, c2, c3, c4, c5, c6, c7⟩ (put (Str.ofString "thirds") (.int (Int.fmod (xat xs a + xat xs b + xat xs c) 3) tv) (put (Str.ofString "mix") (.ref MA) (put (Str.ofString "taken") (.bool tk) (put (Str.ofString "k") (.int (a : Int) tt2) (put (Str.ofString "j") (.int (b : Int) tt1) (put (Str.ofString "i") (.int (c : Int) tt0) (put (Str.ofString "words") (.ref WA) m))))))) ((c7, p7) :: (c6, p6) :: (c5, p5) :: rest) TH ths.toArray ep _ tv hm4 rfl
      (List.forall_mem_cons.mpr ⟨kn.t7, List.forall_mem_cons.mpr ⟨kn.t6, List.forall_mem_cons.mpr ⟨kn.t5, st.offT⟩⟩⟩) hthz dp un gd ad ccd outer A₀ base h₀ L _ _ E B F9 X N10 T trivial (lt_w hdp (by decide)) (lt_u hu (by decide)) hpo ?_)
    intro ep' h11 k11 F11 N11
    dsimp only
    refine wpAny_execs_nil ?_
    dsimp only
    refine wpAny_execs_nil ?_
    have e : thr xs [(a, b, c)] = [Int.fmod (xat xs a + xat xs b + xat xs c) 3] := by
      unfold thr
      have q : thrF xs (a, b, c) = some (Int.fmod (xat xs a + xat xs b + xat xs c) 3) := by
        unfold thrF D3 X3
        rw [if_pos]
        rw [htk] at hte
        exact of_decide_eq_true hte.symm
      rw [List.filterMap_cons_some q]; rfl
    rw [List.push_toArray] at N11
    refine hret (put (Str.ofString "thirds") (.int (Int.fmod (xat xs a + xat xs b + xat xs c) 3) tv) (put (Str.ofString "mix") (.ref MA) (put (Str.ofString "taken") (.bool tk) (put (Str.ofString "k") (.int (a : Int) tt2) (put (Str.ofString "j") (.int (b : Int) tt1) (put (Str.ofString "i") (.int (c : Int) tt0) (put (Str.ofString "words") (.ref WA) m))))))) (ths ++ [Value.int _ tv]) ep' p5 p6 p7 _ _ _ _ _ F11 N11 ⟨rfl, rfl, rfl, rfl, rfl, rfl⟩ e5 e6 e7 ?_
    rw [e]; exact ints_snoc hth
  · dsimp only
    refine wpAny_execs_nil ?_
    refine hret (put (Str.ofString "taken") (.bool tk) (put (Str.ofString "k") (.int (a : Int) tt2) (put (Str.ofString "j") (.int (b : Int) tt1) (put (Str.ofString "i") (.int (c : Int) tt0) (put (Str.ofString "words") (.ref WA) m))))) ths ep o5 o6 o7 z5 z6 z7 _ _ F4 (cb_drop N4 fun q hq => .tail _ hq) keep h5 h6 h7 ?_
    have e : thr xs [(a, b, c)] = [] := by
      unfold thr
      rw [List.filterMap_cons_none]; rfl
      unfold thrF D3
      rw [if_neg]
      intro q
      rw [htk] at hte
      exact absurd q (of_decide_eq_false hte.symm)
    rw [e, List.append_nil]; exact hth
end Mine

end

section
open PySem PySem.W PyProof.Rows PySem.Calls
namespace Mine
local macro_rules | `(tactic| walk_at "nothing 0") => `(tactic| skip)
local macro_rules | `(tactic| walk_at "nothing 1") => `(tactic| skip)
local macro_rules | `(tactic| walk_at "nothing 2") => `(tactic| skip)
local macro_rules | `(tactic| walk_at "nothing 3") => `(tactic| skip)
local macro_rules | `(tactic| walk_at "nothing 4") => `(tactic| skip)
local macro_rules | `(tactic| walk_at "nothing 5") => `(tactic| skip)
local macro_rules | `(tactic| walk_at "nothing 6") => `(tactic| skip)
set_option maxRecDepth 100000
set_option maxHeartbeats 4000000
local macro_rules | `(tactic| walk_at "eval Name") => `(tactic| (k_here; (fail_if_success (with_reducible show wpAny _ _ (eval (Expr.Name _ _) (compEnvC _ _ _ _)) _ _ _)); k_dflt (refine nameX_L (by k_asm) (by assumption) ?_ (by rfl) (by rfl) (by decide))))
def forPos : Stmt → Pos | .For (.Name _ px) _ _ _ _ => px | _ => ⟨0, 0, 0, 0⟩
abbrev LoopGoal (w : World) (dp un : Nat) (gd : Option (List Code)) (L a : Addr) (ccd : Value) (c : Cs) (outer : List Env) (x : Str) (st : Stmt) (r : Addr) (Q : Flow → Shared → Prop) (E : Value → Shared → Prop) (s : Shared) : Prop :=
  wpAny (model PySem.Challenge.rw_re0048_01.row.prog w) (ktrTop dp un gd lawNm lawDef.2 L a ccd c.cl outer) (pyIter (.ref r)) (fun it s₂ => codeAny (model PySem.Challenge.rw_re0048_01.row.prog w) (ktrTop dp un gd lawNm lawDef.2 L a ccd c.cl outer) (.forLoop (.Name x (forPos st)) it (forBody st) [] (envX lawNm lawDef.2 L a ccd c.cl))
    (fun r s' => match r with | .ok f => Q f s' | .error e => cameBackBy (model PySem.Challenge.rw_re0048_01.row.prog w) (ktrTop dp un gd lawNm lawDef.2 L a ccd c.cl outer) (envX lawNm lawDef.2 L a ccd c.cl) E e s') s₂) E s
theorem fhA : ∀ (w : World) (p : Program) (loose : List Str) (mean : ExcName → Option Value) (mg mb : Str → Option Value) (c1 c2 c3 c4 c5 c6 c7 : Addr) (m : Str → Option Value) (news : List (Addr × Obj)),
  ∀ (dp un : Nat) (gd : Option (List Code)) (a : Addr) (ccd : Value) (outer : List Env) (A₀ : Around) (base h₀ : Heap) (L : Addr) (s : Shared) (Q : Flow → Shared → Prop) (E : Value → Shared → Prop),
    Below A₀ base outer h₀ → Fr h₀ L s.heap m → (hd.heap_39 w.params).In h₀ → News h₀ L s.heap news → Top p loose mean mg mb h₀ →
    (∀ r t u v h' tk', Fr h₀ L h' m → News h₀ L h' news → IsRange h' r 0 7 1 t u v → LoopGoal w dp un gd L a ccd ⟨c1, c2, c3, c4, c5, c6, c7⟩ outer (Str.ofString "a") (lawAt 8) r Q E { s with heap := h', toks := tk' }) →
      wpAny (model PySem.Challenge.rw_re0048_01.row.prog w) (ktrTop dp un gd lawNm lawDef.2 L a ccd (Cs.cl ⟨c1, c2, c3, c4, c5, c6, c7⟩) outer) (exec (lawAt 8) (envX lawNm lawDef.2 L a ccd (Cs.cl ⟨c1, c2, c3, c4, c5, c6, c7⟩))) Q E s := by
  dsimp only [Cs.cl, LoopGoal]
  k_fill
  w_top off
  intro w p loose mean mg mb c1 c2 c3 c4 c5 c6 c7 m news dp un gd ad ccd outer A₀ base h₀ L s Q E B F X N T hret
  with_unfolding_all show wpAny _ _ (exec (Stmt.For _ _ _ _ _) _) _ _ _
  refine wpAny_For ?_ (by intro _; with_unfolding_all rfl)
  k_steps
  exact hret _ _ _ _ _ _ (by k_asm) (by k_asm) (by k_asm)
theorem fhB : ∀ (w : World) (p : Program) (loose : List Str) (mean : ExcName → Option Value) (mg mb : Str → Option Value) (c1 c2 c3 c4 c5 c6 c7 : Addr) (m : Str → Option Value) (news : List (Addr × Obj)) (b : Int) (tb : Tok), m (Str.ofString "a") = some (.int b tb) → 
  ∀ (dp un : Nat) (gd : Option (List Code)) (a : Addr) (ccd : Value) (outer : List Env) (A₀ : Around) (base h₀ : Heap) (L : Addr) (s : Shared) (Q : Flow → Shared → Prop) (E : Value → Shared → Prop),
    Below A₀ base outer h₀ → Fr h₀ L s.heap m → (hd.heap_39 w.params).In h₀ → News h₀ L s.heap news → Top p loose mean mg mb h₀ →
    (∀ r t u v h' tk', Fr h₀ L h' m → News h₀ L h' news → IsRange h' r 0 b 1 t u v → LoopGoal w dp un gd L a ccd ⟨c1, c2, c3, c4, c5, c6, c7⟩ outer (Str.ofString "b") (forB) r Q E { s with heap := h', toks := tk' }) →
      wpAny (model PySem.Challenge.rw_re0048_01.row.prog w) (ktrTop dp un gd lawNm lawDef.2 L a ccd (Cs.cl ⟨c1, c2, c3, c4, c5, c6, c7⟩) outer) (exec (forB) (envX lawNm lawDef.2 L a ccd (Cs.cl ⟨c1, c2, c3, c4, c5, c6, c7⟩))) Q E s := by
  dsimp only [Cs.cl, LoopGoal]
  k_fill
  w_top off
  intro w p loose mean mg mb c1 c2 c3 c4 c5 c6 c7 m news b tb hmb dp un gd ad ccd outer A₀ base h₀ L s Q E B F X N T hret
  with_unfolding_all show wpAny _ _ (exec (Stmt.For _ _ _ _ _) _) _ _ _
  refine wpAny_For ?_ (by intro _; with_unfolding_all rfl)
  k_steps
  exact hret _ _ _ _ _ _ (by k_asm) (by k_asm) (by k_asm)
theorem fhC : ∀ (w : World) (p : Program) (loose : List Str) (mean : ExcName → Option Value) (mg mb : Str → Option Value) (c1 c2 c3 c4 c5 c6 c7 : Addr) (m : Str → Option Value) (news : List (Addr × Obj)) (b : Int) (tb : Tok), m (Str.ofString "b") = some (.int b tb) → 
  ∀ (dp un : Nat) (gd : Option (List Code)) (a : Addr) (ccd : Value) (outer : List Env) (A₀ : Around) (base h₀ : Heap) (L : Addr) (s : Shared) (Q : Flow → Shared → Prop) (E : Value → Shared → Prop),
    Below A₀ base outer h₀ → Fr h₀ L s.heap m → (hd.heap_39 w.params).In h₀ → News h₀ L s.heap news → Top p loose mean mg mb h₀ →
    (∀ r t u v h' tk', Fr h₀ L h' m → News h₀ L h' news → IsRange h' r 0 b 1 t u v → LoopGoal w dp un gd L a ccd ⟨c1, c2, c3, c4, c5, c6, c7⟩ outer (Str.ofString "c") (forC) r Q E { s with heap := h', toks := tk' }) →
      wpAny (model PySem.Challenge.rw_re0048_01.row.prog w) (ktrTop dp un gd lawNm lawDef.2 L a ccd (Cs.cl ⟨c1, c2, c3, c4, c5, c6, c7⟩) outer) (exec (forC) (envX lawNm lawDef.2 L a ccd (Cs.cl ⟨c1, c2, c3, c4, c5, c6, c7⟩))) Q E s := by
  dsimp only [Cs.cl, LoopGoal]
  k_fill
  w_top off
  intro w p loose mean mg mb c1 c2 c3 c4 c5 c6 c7 m news b tb hmb dp un gd ad ccd outer A₀ base h₀ L s Q E B F X N T hret
  with_unfolding_all show wpAny _ _ (exec (Stmt.For _ _ _ _ _) _) _ _ _
  refine wpAny_For ?_ (by intro _; with_unfolding_all rfl)
  k_steps
  exact hret _ _ _ _ _ _ (by k_asm) (by k_asm) (by k_asm)
theorem fhK : ∀ (w : World) (p : Program) (loose : List Str) (mean : ExcName → Option Value) (mg mb : Str → Option Value) (c1 c2 c3 c4 c5 c6 c7 : Addr) (m : Str → Option Value) (news : List (Addr × Obj)),
  ∀ (dp un : Nat) (gd : Option (List Code)) (a : Addr) (ccd : Value) (outer : List Env) (A₀ : Around) (base h₀ : Heap) (L : Addr) (s : Shared) (Q : Flow → Shared → Prop) (E : Value → Shared → Prop),
    Below A₀ base outer h₀ → Fr h₀ L s.heap m → (hd.heap_39 w.params).In h₀ → News h₀ L s.heap news → Top p loose mean mg mb h₀ →
    (∀ r t u v h' tk', Fr h₀ L h' m → News h₀ L h' news → IsRange h' r 0 7 1 t u v → LoopGoal w dp un gd L a ccd ⟨c1, c2, c3, c4, c5, c6, c7⟩ outer (Str.ofString "k") (lawAt 10) r Q E { s with heap := h', toks := tk' }) →
      wpAny (model PySem.Challenge.rw_re0048_01.row.prog w) (ktrTop dp un gd lawNm lawDef.2 L a ccd (Cs.cl ⟨c1, c2, c3, c4, c5, c6, c7⟩) outer) (exec (lawAt 10) (envX lawNm lawDef.2 L a ccd (Cs.cl ⟨c1, c2, c3, c4, c5, c6, c7⟩))) Q E s := by
  dsimp only [Cs.cl, LoopGoal]
  k_fill
  w_top off
  intro w p loose mean mg mb c1 c2 c3 c4 c5 c6 c7 m news dp un gd ad ccd outer A₀ base h₀ L s Q E B F X N T hret
  with_unfolding_all show wpAny _ _ (exec (Stmt.For _ _ _ _ _) _) _ _ _
  refine wpAny_For ?_ (by intro _; with_unfolding_all rfl)
  k_steps
  exact hret _ _ _ _ _ _ (by k_asm) (by k_asm) (by k_asm)
theorem fhT : ∀ (w : World) (p : Program) (loose : List Str) (mean : ExcName → Option Value) (mg mb : Str → Option Value) (c1 c2 c3 c4 c5 c6 c7 : Addr) (m : Str → Option Value) (news : List (Addr × Obj)),
  ∀ (dp un : Nat) (gd : Option (List Code)) (a : Addr) (ccd : Value) (outer : List Env) (A₀ : Around) (base h₀ : Heap) (L : Addr) (s : Shared) (Q : Flow → Shared → Prop) (E : Value → Shared → Prop),
    Below A₀ base outer h₀ → Fr h₀ L s.heap m → (hd.heap_39 w.params).In h₀ → News h₀ L s.heap news → Top p loose mean mg mb h₀ →
    (∀ r t u v h' tk', Fr h₀ L h' m → News h₀ L h' news → IsRange h' r 0 3 1 t u v → LoopGoal w dp un gd L a ccd ⟨c1, c2, c3, c4, c5, c6, c7⟩ outer (Str.ofString "thirds") (lawAt 11) r Q E { s with heap := h', toks := tk' }) →
      wpAny (model PySem.Challenge.rw_re0048_01.row.prog w) (ktrTop dp un gd lawNm lawDef.2 L a ccd (Cs.cl ⟨c1, c2, c3, c4, c5, c6, c7⟩) outer) (exec (lawAt 11) (envX lawNm lawDef.2 L a ccd (Cs.cl ⟨c1, c2, c3, c4, c5, c6, c7⟩))) Q E s := by
  dsimp only [Cs.cl, LoopGoal]
  k_fill
  w_top off
  intro w p loose mean mg mb c1 c2 c3 c4 c5 c6 c7 m news dp un gd ad ccd outer A₀ base h₀ L s Q E B F X N T hret
  with_unfolding_all show wpAny _ _ (exec (Stmt.For _ _ _ _ _) _) _ _ _
  refine wpAny_For ?_ (by intro _; with_unfolding_all rfl)
  k_steps
  exact hret _ _ _ _ _ _ (by k_asm) (by k_asm) (by k_asm)
end Mine

end

section
open PySem PySem.W PyProof.Rows PySem.Calls
namespace Mine
set_option maxRecDepth 100000
set_option maxHeartbeats 4000000
theorem stat_more {xs : List Int} {c4 c5 c6 c7 D DA LA PA TH I : Addr} {o4 po : Obj} {vs ds rs : List Value} {rest own : List (Addr × Obj)} (st : Stat xs c4 c5 c6 c7 D DA LA PA TH o4 po vs ds rs rest) (ho : own.map (·.1) = [I])
    (h5 : c5 ≠ I) (h6 : c6 ≠ I) (h7 : c7 ≠ I) (hT : TH ≠ I) : Stat xs c4 c5 c6 c7 D DA LA PA TH o4 po vs ds rs (rest ++ own) := by
  have hI : ∀ p ∈ own, p.1 = I := fun p hp => by
    have : p.1 ∈ own.map (·.1) := List.mem_map.mpr ⟨p, hp, rfl⟩
    rw [ho] at this; exact List.mem_singleton.mp this
  have off : ∀ x : Addr, (∀ p ∈ rest, p.1 ≠ x) → x ≠ I → ∀ p ∈ rest ++ own, p.1 ≠ x := fun x h1 h2 p hp => by
    rcases List.mem_append.mp hp with hp | hp
    · exact h1 p hp
    · rw [hI p hp]; exact Ne.symm h2
  exact ⟨List.mem_append_left _ st.nu, List.mem_append_left _ st.dt, List.mem_append_left _ st.la, fun i hi => by obtain ⟨a, t1, t2, t3, e1, e2⟩ := st.lamp i hi; exact ⟨a, t1, t2, t3, e1, List.mem_append_left _ e2⟩,
    List.mem_append_left _ st.pl, List.mem_append_left _ st.c4m, off c5 st.off5 h5, off c6 st.off6 h6, off c7 st.off7 h7, off TH st.offT hT⟩
theorem thr_append (xs : List Int) (l l' : List (Nat × Nat × Nat)) : thr xs (l ++ l') = thr xs l ++ thr xs l' := List.filterMap_append
theorem thr_len (xs : List Int) (l : List (Nat × Nat × Nat)) : (thr xs l).length ≤ l.length := List.length_filterMap_le _ _
def rowC (a b k : Nat) : List (Nat × Nat × Nat) := (List.range k).map fun c => (a, b, c)
def rowB (a k : Nat) : List (Nat × Nat × Nat) := (List.range k).flatMap fun b => rowC a b b
def rowA (k : Nat) : List (Nat × Nat × Nat) := (List.range k).flatMap fun a => rowB a a
theorem rowC_succ (a b k : Nat) : rowC a b (k + 1) = rowC a b k ++ [(a, b, k)] := by unfold rowC; rw [List.range_succ, List.map_append]; rfl
theorem rowB_succ (a k : Nat) : rowB a (k + 1) = rowB a k ++ rowC a k k := by unfold rowB; rw [List.range_succ, List.flatMap_append]; simp
theorem rowA_succ (k : Nat) : rowA (k + 1) = rowA k ++ rowB k k := by unfold rowA; rw [List.range_succ, List.flatMap_append]; simp
theorem rowC_len (a b k : Nat) : (rowC a b k).length = k := by unfold rowC; simp
theorem rowB_len (a : Nat) : ∀ k, (rowB a k).length ≤ k * k
  | 0 => Nat.zero_le _
  | k + 1 => by
    rw [rowB_succ, List.length_append, rowC_len]
    have := rowB_len a k
    rw [Nat.succ_mul, Nat.mul_succ]; omega
theorem rowA_len : ∀ k, (rowA k).length ≤ k * (k * k)
  | 0 => Nat.zero_le _
  | k + 1 => by
    rw [rowA_succ, List.length_append]
    have h1 := rowA_len k
    have h2 := rowB_len k k
    have h3 : k * k ≤ (k + 1) * (k + 1) := Nat.mul_le_mul (Nat.le_succ k) (Nat.le_succ k)
    have h4 : k * (k * k) ≤ k * ((k + 1) * (k + 1)) := Nat.mul_le_mul_left _ h3
    rw [Nat.succ_mul k]; omega
theorem rowA_trip : rowA 7 = trip := rfl
theorem small7 {n : Nat} (h : n < 8) : Builtin.Range.small 0 (n : Int) 1 = true ∧ Builtin.Range.rangeSize 0 (n : Int) 1 = (n : Int) := by
  have key : ((List.range 8).all fun n => Builtin.Range.small 0 (n : Int) 1 && decide (Builtin.Range.rangeSize 0 (n : Int) 1 = (n : Int))) = true := by decide +kernel
  have q := List.all_eq_true.mp key n (List.mem_range.mpr h)
  simp only [Bool.and_eq_true, decide_eq_true_eq] at q
  exact q
abbrev EnvL (L a : Addr) (ccd : Value) (c : Cs) : Env := envX lawNm lawDef.2 L a ccd c.cl
/-- the state of the loops: the ledger, the cells, the threes so far -/
def LoopJ (xs : List Int) (TH c5 c6 c7 : Addr) (rest : List (Addr × Obj)) (done : List (Nat × Nat × Nat)) (nx : List (Addr × Obj)) : Prop :=
  ∃ ths ep o5 o6 o7 z5 z6 z7, nx = ledT TH c5 c6 c7 ths ep o5 o6 o7 rest ∧ o5.data = .cell z5 ∧ o6.data = .cell z6 ∧ o7.data = .cell z7 ∧ IntsAre ths (thr xs done)
theorem ledT_ne {TH c5 c6 c7 I : Addr} {ths : List Value} {ep : Nat} {o5 o6 o7 : Obj} {rest : List (Addr × Obj)} (h : ∀ p ∈ ledT TH c5 c6 c7 ths ep o5 o6 o7 rest, p.1 ≠ I) : TH ≠ I ∧ c7 ≠ I ∧ c6 ≠ I ∧ c5 ≠ I ∧ ∀ p ∈ rest, p.1 ≠ I :=
  ⟨h _ (.head _), h (c7, o7) (.tail _ (.head _)), h (c6, o6) (.tail _ (.tail _ (.head _))), h (c5, o5) (.tail _ (.tail _ (.tail _ (.head _)))), fun p hp => h p (.tail _ (.tail _ (.tail _ (.tail _ hp))))⟩
theorem ledT_off {TH c5 c6 c7 I : Addr} {ths : List Value} {ep : Nat} {o5 o6 o7 : Obj} {rest : List (Addr × Obj)} (h : TH ≠ I ∧ c7 ≠ I ∧ c6 ≠ I ∧ c5 ≠ I ∧ ∀ p ∈ rest, p.1 ≠ I) : ∀ p ∈ ledT TH c5 c6 c7 ths ep o5 o6 o7 rest, p.1 ≠ I := by
  intro p hp
  rcases List.mem_cons.mp hp with rfl | hp
  · exact h.1
  rcases List.mem_cons.mp hp with rfl | hp
  · exact h.2.1
  rcases List.mem_cons.mp hp with rfl | hp
  · exact h.2.2.1
  rcases List.mem_cons.mp hp with rfl | hp
  · exact h.2.2.2.1
  · exact h.2.2.2.2 p hp
theorem ledT_in {TH c5 c6 c7 : Addr} {ths : List Value} {ep : Nat} {o5 o6 o7 : Obj} {rest own : List (Addr × Obj)} : ∀ p ∈ ledT TH c5 c6 c7 ths ep o5 o6 o7 rest, p ∈ ledT TH c5 c6 c7 ths ep o5 o6 o7 (rest ++ own) := by
  intro p hp
  rcases List.mem_cons.mp hp with rfl | hp
  · exact .head _
  rcases List.mem_cons.mp hp with rfl | hp
  · exact .tail _ (.head _)
  rcases List.mem_cons.mp hp with rfl | hp
  · exact .tail _ (.tail _ (.head _))
  rcases List.mem_cons.mp hp with rfl | hp
  · exact .tail _ (.tail _ (.tail _ (.head _)))
  · exact .tail _ (.tail _ (.tail _ (.tail _ (List.mem_append_left _ hp))))
theorem own_in {TH c5 c6 c7 : Addr} {ths : List Value} {ep : Nat} {o5 o6 o7 : Obj} {rest own : List (Addr × Obj)} : ∀ p ∈ own, p ∈ ledT TH c5 c6 c7 ths ep o5 o6 o7 (rest ++ own) :=
  fun _ hp => .tail _ (.tail _ (.tail _ (.tail _ (List.mem_append_right _ hp))))

theorem loop_c (w : World) (p : Program) (loose : List Str) (mean : ExcName → Option Value) (mg mb : Str → Option Value) (c1 c2 c3 c4 c5 c6 c7 : Addr) (m : Str → Option Value) (rest : List (Addr × Obj)) (xs : List Int) (D DA LA PA TH : Addr) (o4 po o5 o6 o7 : Obj) (vs ds rs ths : List Value) (kvs : List (Str × Value)) (pre : List (Nat × Nat × Nat)) (ep : Nat) (z5 z6 z7 : Option Value) (a b : Nat) (ta tb : Tok)
    (st : Stat xs c4 c5 c6 c7 D DA LA PA TH o4 po vs ds rs rest) (kn : Know xs c4 c5 c6 c7 PA TH o4 po vs ds kvs) (hdict : po.IsDictOf (PySem.strKind PySem.Challenge.rw_re0048_01.row.prog w) kvs)
    (hm1 : m (Str.ofString "numbers") = some (.ref D)) (hm2 : m (Str.ofString "dots") = some (.ref DA)) (hm3 : m (Str.ofString "lamps") = some (.ref LA)) (hm4 : m (Str.ofString "threes") = some (.ref TH))
    (hma : m (Str.ofString "a") = some (.int (a : Int) ta)) (hmb : m (Str.ofString "b") = some (.int (b : Int) tb)) (hab : b < a ∧ a < 7)
    (h5 : o5.data = .cell z5) (h6 : o6.data = .cell z6) (h7 : o7.data = .cell z7) (hth : IntsAre ths (thr xs pre)) (hpl : pre.length ≤ 900)
    (dp un : Nat) (gd : Option (List Code)) (ad : Addr) (ccd : Value) (outer : List Env) (A₀ : Around) (base h₀ : Heap) (L : Addr) (s : Shared) (Q : Flow → Shared → Prop) (E : Value → Shared → Prop)
    (B : Below A₀ base outer h₀) (F : Fr h₀ L s.heap m) (X : (hd.heap_39 w.params).In h₀) (N : News h₀ L s.heap (ledT TH c5 c6 c7 ths ep o5 o6 o7 rest)) (T : Top p loose mean mg mb h₀) (hdp : dp + 6 < recursionLimit) (hu : un + 20 * 6 < cLine)
    (hpo : PassesOwn (model PySem.Challenge.rw_re0048_01.row.prog w) (ktrTop dp un gd lawNm lawDef.2 L ad ccd (Cs.cl ⟨c1, c2, c3, c4, c5, c6, c7⟩) outer) (envX lawNm lawDef.2 L ad ccd (Cs.cl ⟨c1, c2, c3, c4, c5, c6, c7⟩)) E)
    (hret : ∀ m' nx h' tk', Fr h₀ L h' m' → News h₀ L h' nx → Kept m m' → LoopJ xs TH c5 c6 c7 rest (pre ++ rowC a b b) nx → Q .next { s with heap := h', toks := tk' }) :
    wpAny (model PySem.Challenge.rw_re0048_01.row.prog w) (ktrTop dp un gd lawNm lawDef.2 L ad ccd (Cs.cl ⟨c1, c2, c3, c4, c5, c6, c7⟩) outer) (exec forC (envX lawNm lawDef.2 L ad ccd (Cs.cl ⟨c1, c2, c3, c4, c5, c6, c7⟩))) Q E s := by
  have hb8 : b < 8 := Nat.lt_trans hab.1 (Nat.lt_succ_of_lt hab.2)
  refine fhC w p loose mean mg mb c1 c2 c3 c4 c5 c6 c7 m _ (b : Int) tb hmb dp un gd ad ccd outer A₀ base h₀ L s Q E B F X N T ?_
  intro r t u v h1 k1 F1 N1 hr
  refine range_loop (n := b) (fun k m₁ nx => Kept m m₁ ∧ LoopJ xs TH c5 c6 c7 rest (pre ++ rowC a b k) nx) rfl hr (small7 hb8).1 (small7 hb8).2 rfl rfl hpo F1 N1 ?_ ?_ ?_
  · exact ⟨⟨rfl, rfl, rfl, rfl, rfl, rfl⟩, ths, ep, o5, o6, o7, z5, z6, z7, rfl, h5, h6, h7, by rw [show rowC a b 0 = [] from rfl, List.append_nil]; exact hth⟩
  · intro i t' m₁ nx h tk I own hi hnx hown hlt ⟨hK, ths', ep', p5, p6, p7, y5, y6, y7, hnxe, e5, e6, e7, hI⟩ F2 N2
    subst hnxe
    obtain ⟨nT, n7, n6, n5, nR⟩ := ledT_ne hnx
    obtain ⟨k1, k2, k3, k4, k5, k6⟩ := hK
    refine body_c w p loose mean mg mb c1 c2 c3 c4 c5 c6 c7 (put (Str.ofString "c") (.int (i : Int) t') m₁) (rest ++ own) xs D DA LA PA TH o4 po p5 p6 p7 vs ds rs ths' kvs (thr xs (pre ++ rowC a b i)) ep' y5 y6 y7 a b i ta tb t' (stat_more st hown n5 n6 n7 nT) kn hdict
      (k1.trans hm1) (k2.trans hm2) (k3.trans hm3) (k4.trans hm4) (k5.trans hma) (k6.trans hmb) rfl ⟨hi, hab.1, hab.2⟩ e5 e6 e7 hI ?_ dp un gd ad ccd outer A₀ base h₀ L _ _ E B F2 X N2 T hdp hu hpo ?_
    · refine Nat.le_trans (thr_len _ _) ?_
      rw [List.length_append, rowC_len]
      exact Nat.le_trans (Nat.add_le_add hpl (Nat.le_of_lt (Nat.lt_trans hi hb8))) (by decide)
    · intro m' ths2 ep2 q5 q6 q7 y5' y6' y7' h' tk' F3 N3 hK' f5 f6 f7 hI'
      obtain ⟨j1, j2, j3, j4, j5, j6⟩ := hK'
      refine TurnEnd.go (nx := ledT TH c5 c6 c7 ths2 ep2 q5 q6 q7 rest) F3 N3 ledT_in own_in (ledT_off ⟨nT, n7, n6, n5, nR⟩) ⟨⟨j1.trans k1, j2.trans k2, j3.trans k3, j4.trans k4, j5.trans k5, j6.trans k6⟩, ths2, ep2, q5, q6, q7, y5', y6', y7', rfl, f5, f6, f7, ?_⟩
      rw [rowC_succ, ← List.append_assoc, thr_append]; exact hI'
  · intro m₁ nx h tk ⟨hK, hJ⟩ F2 N2
    refine wpAny_execs_nil ?_
    exact hret m₁ nx h tk F2 N2 hK hJ
end Mine

end

section
open PySem PySem.W PyProof.Rows PySem.Calls
namespace Mine
set_option maxRecDepth 100000
set_option maxHeartbeats 4000000
def Kept4 (m m' : Str → Option Value) : Prop := m' (Str.ofString "numbers") = m (Str.ofString "numbers") ∧ m' (Str.ofString "dots") = m (Str.ofString "dots") ∧ m' (Str.ofString "lamps") = m (Str.ofString "lamps") ∧ m' (Str.ofString "threes") = m (Str.ofString "threes")
def Kept5 (m m' : Str → Option Value) : Prop := Kept4 m m' ∧ m' (Str.ofString "a") = m (Str.ofString "a")
theorem bodyB_eq : forBody forB = [forC] := by with_unfolding_all rfl
theorem bodyA_eq : forBody (lawAt 8) = [forB] := by with_unfolding_all rfl
theorem loop_b (w : World) (p : Program) (loose : List Str) (mean : ExcName → Option Value) (mg mb : Str → Option Value) (c1 c2 c3 c4 c5 c6 c7 : Addr) (m : Str → Option Value) (rest : List (Addr × Obj)) (xs : List Int) (D DA LA PA TH : Addr) (o4 po o5 o6 o7 : Obj) (vs ds rs ths : List Value) (kvs : List (Str × Value)) (pre : List (Nat × Nat × Nat)) (ep : Nat) (z5 z6 z7 : Option Value) (a : Nat) (ta : Tok)
    (st : Stat xs c4 c5 c6 c7 D DA LA PA TH o4 po vs ds rs rest) (kn : Know xs c4 c5 c6 c7 PA TH o4 po vs ds kvs) (hdict : po.IsDictOf (PySem.strKind PySem.Challenge.rw_re0048_01.row.prog w) kvs)
    (hm1 : m (Str.ofString "numbers") = some (.ref D)) (hm2 : m (Str.ofString "dots") = some (.ref DA)) (hm3 : m (Str.ofString "lamps") = some (.ref LA)) (hm4 : m (Str.ofString "threes") = some (.ref TH))
    (hma : m (Str.ofString "a") = some (.int (a : Int) ta)) (ha7 : a < 7)
    (h5 : o5.data = .cell z5) (h6 : o6.data = .cell z6) (h7 : o7.data = .cell z7) (hth : IntsAre ths (thr xs pre)) (hpl : pre.length ≤ 400)
    (dp un : Nat) (gd : Option (List Code)) (ad : Addr) (ccd : Value) (outer : List Env) (A₀ : Around) (base h₀ : Heap) (L : Addr) (s : Shared) (Q : Flow → Shared → Prop) (E : Value → Shared → Prop)
    (B : Below A₀ base outer h₀) (F : Fr h₀ L s.heap m) (X : (hd.heap_39 w.params).In h₀) (N : News h₀ L s.heap (ledT TH c5 c6 c7 ths ep o5 o6 o7 rest)) (T : Top p loose mean mg mb h₀) (hdp : dp + 6 < recursionLimit) (hu : un + 20 * 6 < cLine)
    (hpo : PassesOwn (model PySem.Challenge.rw_re0048_01.row.prog w) (ktrTop dp un gd lawNm lawDef.2 L ad ccd (Cs.cl ⟨c1, c2, c3, c4, c5, c6, c7⟩) outer) (envX lawNm lawDef.2 L ad ccd (Cs.cl ⟨c1, c2, c3, c4, c5, c6, c7⟩)) E)
    (hret : ∀ m' nx h' tk', Fr h₀ L h' m' → News h₀ L h' nx → Kept5 m m' → LoopJ xs TH c5 c6 c7 rest (pre ++ rowB a a) nx → Q .next { s with heap := h', toks := tk' }) :
    wpAny (model PySem.Challenge.rw_re0048_01.row.prog w) (ktrTop dp un gd lawNm lawDef.2 L ad ccd (Cs.cl ⟨c1, c2, c3, c4, c5, c6, c7⟩) outer) (exec forB (envX lawNm lawDef.2 L ad ccd (Cs.cl ⟨c1, c2, c3, c4, c5, c6, c7⟩))) Q E s := by
  refine fhB w p loose mean mg mb c1 c2 c3 c4 c5 c6 c7 m _ (a : Int) ta hma dp un gd ad ccd outer A₀ base h₀ L s Q E B F X N T ?_
  intro r t u v h1 k1 F1 N1 hr
  refine range_loop (n := a) (fun k m₁ nx => Kept5 m m₁ ∧ LoopJ xs TH c5 c6 c7 rest (pre ++ rowB a k) nx) rfl hr (small7 (Nat.lt_succ_of_lt ha7)).1 (small7 (Nat.lt_succ_of_lt ha7)).2 rfl rfl hpo F1 N1 ?_ ?_ ?_
  · exact ⟨⟨⟨rfl, rfl, rfl, rfl⟩, rfl⟩, ths, ep, o5, o6, o7, z5, z6, z7, rfl, h5, h6, h7, by rw [show rowB a 0 = [] from rfl, List.append_nil]; exact hth⟩
  · intro i t' m₁ nx h tk I own hi hnx hown hlt ⟨hK, ths', ep', p5, p6, p7, y5, y6, y7, hnxe, e5, e6, e7, hI⟩ F2 N2
    subst hnxe
    obtain ⟨nT, n7, n6, n5, nR⟩ := ledT_ne hnx
    obtain ⟨⟨k1, k2, k3, k4⟩, k5⟩ := hK
    rw [bodyB_eq]
    refine wpAny_execs_cons (loop_c w p loose mean mg mb c1 c2 c3 c4 c5 c6 c7 (put (Str.ofString "b") (.int (i : Int) t') m₁) (rest ++ own) xs D DA LA PA TH o4 po p5 p6 p7 vs ds rs ths' kvs (pre ++ rowB a i) ep' y5 y6 y7 a i ta t' (stat_more st hown n5 n6 n7 nT) kn hdict
      (k1.trans hm1) (k2.trans hm2) (k3.trans hm3) (k4.trans hm4) (k5.trans hma) rfl ⟨hi, ha7⟩ e5 e6 e7 hI ?_ dp un gd ad ccd outer A₀ base h₀ L _ _ E B F2 X N2 T hdp hu hpo ?_)
    · rw [List.length_append]
      refine Nat.le_trans (Nat.add_le_add hpl (rowB_len a i)) ?_
      have h1 : i ≤ 7 := Nat.le_of_lt (Nat.lt_trans hi ha7)
      exact Nat.le_trans (Nat.add_le_add_left (Nat.mul_le_mul h1 h1) 400) (by decide)
    · intro m' nx' h' tk' F3 N3 hK' ⟨ths2, ep2, q5, q6, q7, y5', y6', y7', hnxe', f5, f6, f7, hI'⟩
      subst hnxe'
      obtain ⟨j1, j2, j3, j4, j5, j6⟩ := hK'
      dsimp only
      refine wpAny_execs_nil ?_
      refine TurnEnd.go (nx := ledT TH c5 c6 c7 ths2 ep2 q5 q6 q7 rest) F3 N3 ledT_in own_in (ledT_off ⟨nT, n7, n6, n5, nR⟩) ⟨⟨⟨j1.trans k1, j2.trans k2, j3.trans k3, j4.trans k4⟩, j5.trans k5⟩, ths2, ep2, q5, q6, q7, y5', y6', y7', rfl, f5, f6, f7, ?_⟩
      rw [rowB_succ, ← List.append_assoc]; exact hI'
  · intro m₁ nx h tk ⟨hK, hJ⟩ F2 N2
    refine wpAny_execs_nil ?_
    exact hret m₁ nx h tk F2 N2 hK hJ
theorem loop_a (w : World) (p : Program) (loose : List Str) (mean : ExcName → Option Value) (mg mb : Str → Option Value) (c1 c2 c3 c4 c5 c6 c7 : Addr) (m : Str → Option Value) (rest : List (Addr × Obj)) (xs : List Int) (D DA LA PA TH : Addr) (o4 po o5 o6 o7 : Obj) (vs ds rs ths : List Value) (kvs : List (Str × Value)) (ep : Nat) (z5 z6 z7 : Option Value)
    (st : Stat xs c4 c5 c6 c7 D DA LA PA TH o4 po vs ds rs rest) (kn : Know xs c4 c5 c6 c7 PA TH o4 po vs ds kvs) (hdict : po.IsDictOf (PySem.strKind PySem.Challenge.rw_re0048_01.row.prog w) kvs)
    (hm1 : m (Str.ofString "numbers") = some (.ref D)) (hm2 : m (Str.ofString "dots") = some (.ref DA)) (hm3 : m (Str.ofString "lamps") = some (.ref LA)) (hm4 : m (Str.ofString "threes") = some (.ref TH))
    (h5 : o5.data = .cell z5) (h6 : o6.data = .cell z6) (h7 : o7.data = .cell z7) (hth : IntsAre ths [])
    (dp un : Nat) (gd : Option (List Code)) (ad : Addr) (ccd : Value) (outer : List Env) (A₀ : Around) (base h₀ : Heap) (L : Addr) (s : Shared) (Q : Flow → Shared → Prop) (E : Value → Shared → Prop)
    (B : Below A₀ base outer h₀) (F : Fr h₀ L s.heap m) (X : (hd.heap_39 w.params).In h₀) (N : News h₀ L s.heap (ledT TH c5 c6 c7 ths ep o5 o6 o7 rest)) (T : Top p loose mean mg mb h₀) (hdp : dp + 6 < recursionLimit) (hu : un + 20 * 6 < cLine)
    (hpo : PassesOwn (model PySem.Challenge.rw_re0048_01.row.prog w) (ktrTop dp un gd lawNm lawDef.2 L ad ccd (Cs.cl ⟨c1, c2, c3, c4, c5, c6, c7⟩) outer) (envX lawNm lawDef.2 L ad ccd (Cs.cl ⟨c1, c2, c3, c4, c5, c6, c7⟩)) E)
    (hret : ∀ m' nx h' tk', Fr h₀ L h' m' → News h₀ L h' nx → Kept4 m m' → LoopJ xs TH c5 c6 c7 rest trip nx → Q .next { s with heap := h', toks := tk' }) :
    wpAny (model PySem.Challenge.rw_re0048_01.row.prog w) (ktrTop dp un gd lawNm lawDef.2 L ad ccd (Cs.cl ⟨c1, c2, c3, c4, c5, c6, c7⟩) outer) (exec (lawAt 8) (envX lawNm lawDef.2 L ad ccd (Cs.cl ⟨c1, c2, c3, c4, c5, c6, c7⟩))) Q E s := by
  refine fhA w p loose mean mg mb c1 c2 c3 c4 c5 c6 c7 m _ dp un gd ad ccd outer A₀ base h₀ L s Q E B F X N T ?_
  intro r t u v h1 k1 F1 N1 hr
  refine range_loop (n := 7) (fun k m₁ nx => Kept4 m m₁ ∧ LoopJ xs TH c5 c6 c7 rest (rowA k) nx) rfl hr (small7 (n := 7) (by decide)).1 (small7 (n := 7) (by decide)).2 rfl rfl hpo F1 N1 ?_ ?_ ?_
  · exact ⟨⟨rfl, rfl, rfl, rfl⟩, ths, ep, o5, o6, o7, z5, z6, z7, rfl, h5, h6, h7, hth⟩
  · intro i t' m₁ nx h tk I own hi hnx hown hlt ⟨hK, ths', ep', p5, p6, p7, y5, y6, y7, hnxe, e5, e6, e7, hI⟩ F2 N2
    subst hnxe
    obtain ⟨nT, n7, n6, n5, nR⟩ := ledT_ne hnx
    obtain ⟨k1, k2, k3, k4⟩ := hK
    rw [bodyA_eq]
    refine wpAny_execs_cons (loop_b w p loose mean mg mb c1 c2 c3 c4 c5 c6 c7 (put (Str.ofString "a") (.int (i : Int) t') m₁) (rest ++ own) xs D DA LA PA TH o4 po p5 p6 p7 vs ds rs ths' kvs (rowA i) ep' y5 y6 y7 i t' (stat_more st hown n5 n6 n7 nT) kn hdict
      (k1.trans hm1) (k2.trans hm2) (k3.trans hm3) (k4.trans hm4) rfl hi e5 e6 e7 hI ?_ dp un gd ad ccd outer A₀ base h₀ L _ _ E B F2 X N2 T hdp hu hpo ?_)
    · have h1 : i ≤ 7 := Nat.le_of_lt hi
      exact Nat.le_trans (rowA_len i) (Nat.le_trans (Nat.mul_le_mul h1 (Nat.mul_le_mul h1 h1)) (by decide))
    · intro m' nx' h' tk' F3 N3 hK' ⟨ths2, ep2, q5, q6, q7, y5', y6', y7', hnxe', f5, f6, f7, hI'⟩
      subst hnxe'
      obtain ⟨⟨j1, j2, j3, j4⟩, j5⟩ := hK'
      dsimp only
      refine wpAny_execs_nil ?_
      refine TurnEnd.go (nx := ledT TH c5 c6 c7 ths2 ep2 q5 q6 q7 rest) F3 N3 ledT_in own_in (ledT_off ⟨nT, n7, n6, n5, nR⟩) ⟨⟨j1.trans k1, j2.trans k2, j3.trans k3, j4.trans k4⟩, ths2, ep2, q5, q6, q7, y5', y6', y7', rfl, f5, f6, f7, ?_⟩
      rw [rowA_succ]; exact hI'
  · intro m₁ nx h tk ⟨hK, hJ⟩ F2 N2
    refine wpAny_execs_nil ?_
    exact hret m₁ nx h tk F2 N2 hK (rowA_trip ▸ hJ)
end Mine

end

section
open PySem PySem.W PyProof.Rows PySem.Calls
namespace Mine
local macro_rules | `(tactic| walk_at "nothing 0") => `(tactic| skip)
local macro_rules | `(tactic| walk_at "nothing 1") => `(tactic| skip)
local macro_rules | `(tactic| walk_at "nothing 2") => `(tactic| skip)
local macro_rules | `(tactic| walk_at "nothing 3") => `(tactic| skip)
local macro_rules | `(tactic| walk_at "nothing 4") => `(tactic| skip)
local macro_rules | `(tactic| walk_at "nothing 5") => `(tactic| skip)
local macro_rules | `(tactic| walk_at "nothing 6") => `(tactic| skip)
local macro_rules | `(tactic| walk_at "nothing 7") => `(tactic| skip)
local macro_rules | `(tactic| walk_at "nothing 8") => `(tactic| skip)
local macro_rules | `(tactic| walk_at "nothing 9") => `(tactic| skip)
local macro_rules | `(tactic| walk_at "nothing 10") => `(tactic| skip)
local macro_rules | `(tactic| walk_at "nothing 11") => `(tactic| skip)
local macro_rules | `(tactic| walk_at "nothing 12") => `(tactic| skip)
local macro_rules | `(tactic| walk_at "nothing 13") => `(tactic| skip)
set_option maxRecDepth 100000
set_option maxHeartbeats 4000000
local macro_rules | `(tactic| walk_at "eval Name") => `(tactic| (k_here; (fail_if_success (with_reducible show wpAny _ _ (eval (Expr.Name _ _) (compEnvC _ _ _ _)) _ _ _)); k_dflt (refine nameX_L (by k_asm) (by assumption) ?_ (by rfl) (by rfl) (by decide))))
local macro_rules | `(tactic| k_mem) => `(tactic| assumption)
local macro_rules | `(tactic| walk_at "subscriptTail Name Name ref int") => `(tactic| (k_here; k_dflt (refine item_at (News.isList (by k_asm) (by k_mem)) (by assumption) (lt63 (by assumption)) (by assumption) ?_ (by with_unfolding_all rfl))))
local macro_rules | `(tactic| walk_at "call ref") => `(tactic| (k_here; (with_reducible show wpAny _ _ (call (Value.ref 57) [Value.float _ _, Value.float _ _, Value.float _ _, Value.int _ _]) _ _ _); k_dflt (refine' hue_call _ _ _ _ _ _ _ _ _ _ _ _ _ _ _ ?z0 ?z1 ?z2 _ _ _ _ _ _ _ _ _ _ _ _ _ _ _ _ _ ?k1 ?k2 ?k3 ?k4 ?k5 ?kK ?kd ?ku ?_; (case z0 => assumption); (case z1 => assumption); (case z2 => decide); (case k1 => k_asm); (case k2 => k_asm); (case k3 => k_asm); (case k4 => k_asm); (case k5 => k_asm); (case kK => first | exact rfl | assumption); (case kd => ktr_room); (case ku => ktr_units); intro t9 h9 tk9 F9 N9; (try dsimp only); (try k_fold))))
local macro_rules | `(tactic| walk_at "call ref") => `(tactic| (k_here; (with_reducible show wpAny _ _ (call (Value.ref 64) [Value.ref _, Value.int _ _]) _ _ _); k_dflt (refine' whole7 _ _ _ _ _ _ _ _ _ _ _ _ _ _ _ _ _ _ _ _ _ _ _ _ _ _ _ _ ?z0 ?z1 ?z2 ?z3 ?z4 ?z5 ?z6 ?z7 ?z8 ?z9 _ _ _ _ _ _ _ _ _ _ _ _ _ _ _ _ _ ?k1 ?k2 ?k3 ?k4 ?k5 ?kK ?kd ?ku ?_; (case k4 => k_asm); (case z0 => assumption); (case z1 => assumption); (case z2 => decide +kernel); (case z3 => decide +kernel); (case z4 => decide +kernel); (case z5 => decide +kernel); (case z6 => decide +kernel); (case z7 => decide +kernel); (case z8 => decide +kernel); (case z9 => assumption); (case k1 => k_asm); (case k2 => k_asm); (case k3 => k_asm); (case k5 => k_asm); (case kK => first | exact rfl | assumption); (case kd => ktr_room); (case ku => ktr_units); intro t9 h9 tk9 F9 N9; (try dsimp only); (try k_fold))))
local macro_rules | `(tactic| walk_at "call builtin:sum") => `(tactic| (k_here; k_dflt (refine' LSm.sum_ints ?k1 ?k2 ?k0 ?k3 ?k4 ?_; (case k0 => rfl); (case k1 => k_asm); (case k2 => k_asm); (case k3 => exact News.isList (by k_asm) (by k_mem)); (case k4 => assumption)); intro h' tk' t' F' N'; (try dsimp only)))
local macro_rules | `(tactic| walk_at "call builtin:list.append") => `(tactic| (k_here; (with_reducible show wpAny _ _ (call (Value.builtin _) [Value.ref _, _]) _ _ _); k_dflt (refine' append_K ?k1 ?k2 ?k3 ?_ ?z; (case k1 => k_asm); (case k2 => k_asm); (case k3 => exact Upd.tail (by k_ne) (Upd.head (by assumption))); (case z => assumption)); intro h' F' N'; (try dsimp only); (try k_sweep)))
theorem k1t : ∀ (w : World) (p : Program) (loose : List Str) (mean : ExcName → Option Value) (mg mb : Str → Option Value) (c1 c2 c3 c4 c5 c6 c7 : Addr) (m : Str → Option Value) (o3 : Obj) (NA : Addr) (n0 n1 n2 n3 n4 n5 n6 : Tok) (SX : Addr) (sx : Array Value) (ep : Nat) (rest : List (Addr × Obj)) (k : Int) (t : Tok) (DA D LA : Addr) (ds vs rs : List Value) (dns xs : List Int) (dk : Int) (td : Tok) (ra : Addr) (x y z : UInt64) (q0 q1 q2 : Tok) (wl : Str) (q : Nat),
    m (Str.ofString "k") = some (.int k t) → m (Str.ofString "dots") = some (.ref DA) → m (Str.ofString "lamps") = some (.ref LA) → m (Str.ofString "numbers") = some (.ref D) → m (Str.ofString "sixes") = some (.ref SX) → 0 ≤ k → k < 7 →
    (c3, o3) ∈ rest → o3.data = .cell (some (.ref NA)) → (DA, W.listOf ds.toArray ds.length) ∈ rest → (D, W.listOf vs.toArray vs.length) ∈ rest → (LA, W.listOf rs.toArray rs.length) ∈ rest → (ra, tupO [.float x q0, .float y q1, .float z q2]) ∈ rest →
    IntsAre ds dns → IntsAre vs xs → ds[k.toNat]? = some (.int dk td) → rs[k.toNat]? = some (.ref ra) → 0 ≤ dns.sum - dk → dns.sum - dk ≤ 20 →
    ellB (wantS (Str.ofString "OPTIMIZED") (Str.ofString "NOFREE") (dns.sum - dk)) (gotS [Str.ofString "OPTIMIZED", Str.ofString "NEWLOCALS", Str.ofString "VARARGS", Str.ofString "VARKEYWORDS", Str.ofString "NESTED", Str.ofString "GENERATOR", Str.ofString "NOFREE"]) (Str.ofString "OPTIMIZED") wl q true = true → okF x y z = true → Float64.isFinite (hueX x y z 3) = true → @Ne Nat NA SX → (∀ p ∈ rest, p.1 ≠ SX) → sx.size ≤ sizeLine →
    Blk w p loose mean mg mb 5 ⟨c1, c2, c3, c4, c5, c6, c7⟩ (kAt 0) m ((NA, namesO n0 n1 n2 n3 n4 n5 n6) :: (SX, W.listOf sx ep) :: rest) (fun _ => True) (fun h₀ L s Q =>
      ∀ (v0 v1 v2 : Value) (t' : Tok) (ep' : Nat) (h' : Heap) (tk' : Nat), Fr h₀ L h' (fun y => if y = Str.ofString "blue" then some v2 else if y = Str.ofString "green" then some v1 else if y = Str.ofString "red" then some v0 else m y) → News h₀ L h' ((NA, namesO n0 n1 n2 n3 n4 n5 n6) :: (SX, W.listOf (sx.push (.int (Int.fmod (xs.sum - hueN x y z 3) 3) t')) ep') :: rest) →
        Q .next { s with heap := h', toks := tk' }) := by
  dsimp only [Blk, Cs.cl, namesO]
  k_fill
  w_top off
  intro w p loose mean mg mb c1 c2 c3 c4 c5 c6 c7 m o3 NA n0 n1 n2 n3 n4 n5 n6 SX sx ep rest k t DA D LA ds vs rs dns xs dk td ra x y z q0 q1 q2 wl q hm1 hm2 hm3 hm4 hm5 hk0 hk7 h3m h3 hDA hD hLA hra hID hIV hdk hrk hd0 hd20 hell hok hfin hNS hrest hsz dp un gd ad ccd outer A₀ base h₀ L s Q E B F X N T _ hdp hu hpo hret
  with_unfolding_all show wpAny _ _ (exec (Stmt.If _ _ _ _) _) _ _ _
  k_steps
  exact hret _ _ _ _ _ _ _ (by k_asm) (by k_asm)
end Mine

end

section
open PySem PySem.W PyProof.Rows PySem.Calls
namespace Mine
set_option maxRecDepth 100000
set_option maxHeartbeats 4000000
local macro_rules | `(tactic| walk_at "eval Name") => `(tactic| (k_here; (fail_if_success (with_reducible show wpAny _ _ (eval (Expr.Name _ _) (compEnvC _ _ _ _)) _ _ _)); k_dflt (refine nameX_L (by k_asm) (by assumption) ?_ (by rfl) (by rfl) (by decide))))
local macro_rules | `(tactic| k_mem) => `(tactic| assumption)
local macro_rules | `(tactic| walk_at "subscriptTail Name Name ref int") => `(tactic| (k_here; k_dflt (refine item_at (News.isList (by k_asm) (by k_mem)) (by assumption) (lt63 (by assumption)) (by assumption) ?_ (by with_unfolding_all rfl))))
local macro_rules | `(tactic| walk_at "call ref") => `(tactic| (k_here; (with_reducible show wpAny _ _ (call (Value.ref 57) [Value.float _ _, Value.float _ _, Value.float _ _, Value.int _ _]) _ _ _); k_dflt (refine' hue_call _ _ _ _ _ _ _ _ _ _ _ _ _ _ _ ?z0 ?z1 ?z2 _ _ _ _ _ _ _ _ _ _ _ _ _ _ _ _ _ ?k1 ?k2 ?k3 ?k4 ?k5 ?kK ?kd ?ku ?_; (case z0 => assumption); (case z1 => assumption); (case z2 => decide); (case k1 => k_asm); (case k2 => k_asm); (case k3 => k_asm); (case k4 => k_asm); (case k5 => k_asm); (case kK => first | exact rfl | assumption); (case kd => ktr_room); (case ku => ktr_units); intro t9 h9 tk9 F9 N9; (try dsimp only); (try k_fold))))
local macro_rules | `(tactic| walk_at "call ref") => `(tactic| (k_here; (with_reducible show wpAny _ _ (call (Value.ref 64) [Value.ref _, Value.int _ _]) _ _ _); k_dflt (refine' whole7 _ _ _ _ _ _ _ _ _ _ _ _ _ _ _ _ _ _ _ _ _ _ _ _ _ _ _ _ ?z0 ?z1 ?z2 ?z3 ?z4 ?z5 ?z6 ?z7 ?z8 ?z9 _ _ _ _ _ _ _ _ _ _ _ _ _ _ _ _ _ ?k1 ?k2 ?k3 ?k4 ?k5 ?kK ?kd ?ku ?_; (case k4 => k_asm); (case z0 => assumption); (case z1 => assumption); (case z2 => decide +kernel); (case z3 => decide +kernel); (case z4 => decide +kernel); (case z5 => decide +kernel); (case z6 => decide +kernel); (case z7 => decide +kernel); (case z8 => decide +kernel); (case z9 => assumption); (case k1 => k_asm); (case k2 => k_asm); (case k3 => k_asm); (case k5 => k_asm); (case kK => first | exact rfl | assumption); (case kd => ktr_room); (case ku => ktr_units); intro t9 h9 tk9 F9 N9; (try dsimp only); (try k_fold))))
local macro_rules | `(tactic| walk_at "call builtin:sum") => `(tactic| (k_here; k_dflt (refine' LSm.sum_ints ?k1 ?k2 ?k0 ?k3 ?k4 ?_; (case k0 => rfl); (case k1 => k_asm); (case k2 => k_asm); (case k3 => exact News.isList (by k_asm) (by k_mem)); (case k4 => assumption)); intro h' tk' t' F' N'; (try dsimp only)))
local macro_rules | `(tactic| walk_at "call builtin:list.append") => `(tactic| (k_here; (with_reducible show wpAny _ _ (call (Value.builtin _) [Value.ref _, _]) _ _ _); k_dflt (refine' append_K ?k1 ?k2 ?k3 ?_ ?z; (case k1 => k_asm); (case k2 => k_asm); (case k3 => exact Upd.tail (by k_ne) (Upd.head (by assumption))); (case z => assumption)); intro h' F' N'; (try dsimp only); (try k_sweep)))
theorem k1f : ∀ (w : World) (p : Program) (loose : List Str) (mean : ExcName → Option Value) (mg mb : Str → Option Value) (c1 c2 c3 c4 c5 c6 c7 : Addr) (m : Str → Option Value) (o3 : Obj) (NA : Addr) (n0 n1 n2 n3 n4 n5 n6 : Tok) (SX : Addr) (sx : Array Value) (ep : Nat) (rest : List (Addr × Obj)) (k : Int) (t : Tok) (DA D LA : Addr) (ds vs rs : List Value) (dns xs : List Int) (dk : Int) (td : Tok) (ra : Addr) (x y z : UInt64) (q0 q1 q2 : Tok) (wl : Str) (q : Nat),
    m (Str.ofString "k") = some (.int k t) → m (Str.ofString "dots") = some (.ref DA) → m (Str.ofString "lamps") = some (.ref LA) → m (Str.ofString "numbers") = some (.ref D) → m (Str.ofString "sixes") = some (.ref SX) → 0 ≤ k → k < 7 →
    (c3, o3) ∈ rest → o3.data = .cell (some (.ref NA)) → (DA, W.listOf ds.toArray ds.length) ∈ rest → (D, W.listOf vs.toArray vs.length) ∈ rest → (LA, W.listOf rs.toArray rs.length) ∈ rest → (ra, tupO [.float x q0, .float y q1, .float z q2]) ∈ rest →
    IntsAre ds dns → IntsAre vs xs → ds[k.toNat]? = some (.int dk td) → rs[k.toNat]? = some (.ref ra) → 0 ≤ dns.sum - dk → dns.sum - dk ≤ 20 →
    ellB (wantS (Str.ofString "OPTIMIZED") (Str.ofString "NOFREE") (dns.sum - dk)) (gotS [Str.ofString "OPTIMIZED", Str.ofString "NEWLOCALS", Str.ofString "VARARGS", Str.ofString "VARKEYWORDS", Str.ofString "NESTED", Str.ofString "GENERATOR", Str.ofString "NOFREE"]) (Str.ofString "OPTIMIZED") wl q false = true → okF x y z = true → Float64.isFinite (hueX x y z 3) = true → @Ne Nat NA SX → (∀ p ∈ rest, p.1 ≠ SX) → sx.size ≤ sizeLine →
    Blk w p loose mean mg mb 5 ⟨c1, c2, c3, c4, c5, c6, c7⟩ (kAt 0) m ((NA, namesO n0 n1 n2 n3 n4 n5 n6) :: (SX, W.listOf sx ep) :: rest) (fun _ => True) (fun h₀ L s Q =>
      ∀ (h' : Heap) (tk' : Nat), Fr h₀ L h' m → News h₀ L h' ((NA, namesO n0 n1 n2 n3 n4 n5 n6) :: (SX, W.listOf sx ep) :: rest) →
        Q .next { s with heap := h', toks := tk' }) := by
  dsimp only [Blk, Cs.cl, namesO]
  k_fill
  w_top off
  intro w p loose mean mg mb c1 c2 c3 c4 c5 c6 c7 m o3 NA n0 n1 n2 n3 n4 n5 n6 SX sx ep rest k t DA D LA ds vs rs dns xs dk td ra x y z q0 q1 q2 wl q hm1 hm2 hm3 hm4 hm5 hk0 hk7 h3m h3 hDA hD hLA hra hID hIV hdk hrk hd0 hd20 hell hok hfin hNS hrest hsz dp un gd ad ccd outer A₀ base h₀ L s Q E B F X N T _ hdp hu hpo hret
  with_unfolding_all show wpAny _ _ (exec (Stmt.If _ _ _ _) _) _ _ _
  k_steps
  exact hret _ _ (by k_asm) (by k_asm)
end Mine

end

section
open PySem PySem.W PyProof.Rows PySem.Calls
namespace Mine
local macro_rules | `(tactic| walk_at "nothing 0") => `(tactic| skip)
local macro_rules | `(tactic| walk_at "nothing 1") => `(tactic| skip)
local macro_rules | `(tactic| walk_at "nothing 2") => `(tactic| skip)
local macro_rules | `(tactic| walk_at "nothing 3") => `(tactic| skip)
local macro_rules | `(tactic| walk_at "nothing 4") => `(tactic| skip)
local macro_rules | `(tactic| walk_at "nothing 5") => `(tactic| skip)
local macro_rules | `(tactic| walk_at "nothing 6") => `(tactic| skip)
set_option maxRecDepth 100000
set_option maxHeartbeats 4000000
local macro_rules | `(tactic| walk_at "eval Name") => `(tactic| (k_here; (fail_if_success (with_reducible show wpAny _ _ (eval (Expr.Name _ _) (compEnvC _ _ _ _)) _ _ _)); k_dflt (refine nameX_L (by k_asm) (by assumption) ?_ (by rfl) (by rfl) (by decide))))
local macro_rules | `(tactic| k_mem) => `(tactic| assumption)
local macro_rules | `(tactic| walk_at "call builtin:list.count") => `(tactic| (k_here; (with_reducible show wpAny _ _ (call (Value.builtin _) [Value.ref _, Value.int _ _]) _ _ _); k_dflt (refine count_list_ints (News.isList (by k_asm) (by k_mem)) (by assumption) ?_)))
theorem h1 : ∀ (w : World) (p : Program) (loose : List Str) (mean : ExcName → Option Value) (mg mb : Str → Option Value) (cs : Cs) (m : Str → Option Value) (news : List (Addr × Obj)) (v : Int) (t : Tok) (TH SX : Addr) (th sx : List Value) (tn sn : List Int) (e1 e2 : Nat),
    m (Str.ofString "thirds") = some (.int v t) → m (Str.ofString "threes") = some (.ref TH) → m (Str.ofString "sixes") = some (.ref SX) → IntsAre th tn → IntsAre sx sn →
    Int.fmod ((tn.count v : Nat) - (sn.count v : Nat)) 3 = (if v = 0 then 1 else 0) →
    Blk w p loose mean mg mb 5 cs (hAt 0) m ((SX, W.listOf sx.toArray e2) :: (TH, W.listOf th.toArray e1) :: news) (fun _ => True) (fun h₀ L s Q =>
      ∀ (h' : Heap) (tk' : Nat), Fr h₀ L h' m → News h₀ L h' ((SX, W.listOf sx.toArray e2) :: (TH, W.listOf th.toArray e1) :: news) → Q .next { s with heap := h', toks := tk' }) := by
  dsimp only [Blk, Cs.cl, namesO]
  k_fill
  w_top off
  intro w p loose mean mg mb cs m news v t TH SX th sx tn sn e1 e2 hm1 hm2 hm3 hI1 hI2 hval dp un gd ad ccd outer A₀ base h₀ L s Q E B F X N T _ hdp hu hpo hret
  with_unfolding_all show wpAny _ _ (exec (Stmt.If _ _ _ _) _) _ _ _
  k_steps
  all_goals first
    | exact hret _ _ F N
    | exact absurd (hval.trans (if_pos (by assumption))) (by assumption)
    | exact absurd (hval.trans (if_neg (by assumption))) (by assumption)
end Mine

end

section
open PySem PySem.W PyProof.Rows PySem.Calls
namespace Mine
set_option maxRecDepth 100000
set_option maxHeartbeats 4000000
structure StatK (xs : List Int) (c3 D DA LA SX : Addr) (o3 : Obj) (vs ds rs : List Value) (rest : List (Addr × Obj)) : Prop where
  nu : (D, W.listOf vs.toArray vs.length) ∈ rest
  dt : (DA, W.listOf ds.toArray ds.length) ∈ rest
  la : (LA, W.listOf rs.toArray rs.length) ∈ rest
  lamp : ∀ i, i < 7 → ∃ a t1 t2 t3, rs[i]? = some (Value.ref a) ∧ (a, lampO (xat xs i) t1 t2 t3) ∈ rest
  c3m : (c3, o3) ∈ rest
  offS : ∀ p ∈ rest, p.1 ≠ SX
theorem statK_more {xs : List Int} {c3 D DA LA SX I : Addr} {o3 : Obj} {vs ds rs : List Value} {rest own : List (Addr × Obj)} (st : StatK xs c3 D DA LA SX o3 vs ds rs rest) (ho : own.map (·.1) = [I]) (hS : SX ≠ I) : StatK xs c3 D DA LA SX o3 vs ds rs (rest ++ own) := by
  refine ⟨List.mem_append_left _ st.nu, List.mem_append_left _ st.dt, List.mem_append_left _ st.la, fun i hi => by obtain ⟨a, t1, t2, t3, e1, e2⟩ := st.lamp i hi; exact ⟨a, t1, t2, t3, e1, List.mem_append_left _ e2⟩, List.mem_append_left _ st.c3m, fun p hp => ?_⟩
  rcases List.mem_append.mp hp with hp | hp
  · exact st.offS p hp
  · have : p.1 ∈ own.map (·.1) := List.mem_map.mpr ⟨p, hp, rfl⟩
    rw [ho] at this; rw [List.mem_singleton.mp this]; exact Ne.symm hS
def KeptS (m m' : Str → Option Value) : Prop := Kept4 m m' ∧ m' (Str.ofString "sixes") = m (Str.ofString "sixes")
theorem D6_bound {xs : List Int} (hl : xs.length = 7) {i : Nat} (hi : i < 7) : 0 ≤ D6 xs i ∧ D6 xs i ≤ 12 := by
  match xs, hl with
  | [x0, x1, x2, x3, x4, x5, x6], _ =>
    have b0 := dot_bound x0
    have b1 := dot_bound x1
    have b2 := dot_bound x2
    have b3 := dot_bound x3
    have b4 := dot_bound x4
    have b5 := dot_bound x5
    have b6 := dot_bound x6
    match i, hi with
    | 0, _ | 1, _ | 2, _ | 3, _ | 4, _ | 5, _ | 6, _ => simp only [D6, xat, List.map_cons, List.map_nil, List.sum_cons, List.sum_nil, List.getD_cons_zero, List.getD_cons_succ, Int.add_zero]; omega
theorem fmod_swap {S h x : Int} (hx : 0 ≤ x) (e : Int.fmod h 3 = ((x.toNat % 3 : Nat) : Int)) : Int.fmod (S - h) 3 = Int.fmod (S - x) 3 := by
  rw [fmod3] at *; rw [fmod3]; omega
theorem le_20' {d : Int} (h : d ≤ 12) : d ≤ 20 := by omega
theorem sixs_succ (xs : List Int) (i : Nat) : sixs xs (List.range (i + 1)) = sixs xs (List.range i) ++ sixs xs [i] := by unfold sixs; rw [List.range_succ, List.filterMap_append]
theorem sixs_len (xs : List Int) (l : List Nat) : (sixs xs l).length ≤ l.length := List.length_filterMap_le _ _
theorem bodyK_eq : forBody (lawAt 10) = [kAt 0] := by with_unfolding_all rfl
theorem bodyH_eq : forBody (lawAt 11) = [hAt 0] := by with_unfolding_all rfl
theorem loop_k (w : World) (p : Program) (loose : List Str) (mean : ExcName → Option Value) (mg mb : Str → Option Value) (c1 c2 c3 c4 c5 c6 c7 : Addr) (m : Str → Option Value) (rest : List (Addr × Obj)) (xs : List Int) (NA D DA LA SX : Addr) (o3 : Obj) (n0 n1 n2 n3 n4 n5 n6 : Tok) (vs ds rs sxs : List Value) (ep : Nat)
    (st : StatK xs c3 D DA LA SX o3 vs ds rs rest) (hl : xs.length = 7) (hb : ∀ x ∈ xs, 0 ≤ x ∧ x < 27) (hI : IntsAre vs xs) (hID : IntsAre ds (xs.map dot)) (h3 : o3.data = .cell (some (.ref NA))) (hNS : @Ne Nat NA SX)
    (hm1 : m (Str.ofString "numbers") = some (.ref D)) (hm2 : m (Str.ofString "dots") = some (.ref DA)) (hm3 : m (Str.ofString "lamps") = some (.ref LA)) (hm5 : m (Str.ofString "sixes") = some (.ref SX)) (hsx : IntsAre sxs [])
    (dp un : Nat) (gd : Option (List Code)) (ad : Addr) (ccd : Value) (outer : List Env) (A₀ : Around) (base h₀ : Heap) (L : Addr) (s : Shared) (Q : Flow → Shared → Prop) (E : Value → Shared → Prop)
    (B : Below A₀ base outer h₀) (F : Fr h₀ L s.heap m) (X : (hd.heap_39 w.params).In h₀) (N : News h₀ L s.heap ((NA, namesO n0 n1 n2 n3 n4 n5 n6) :: (SX, W.listOf sxs.toArray ep) :: rest)) (T : Top p loose mean mg mb h₀) (hdp : dp + 6 < recursionLimit) (hu : un + 20 * 6 < cLine)
    (hpo : PassesOwn (model PySem.Challenge.rw_re0048_01.row.prog w) (ktrTop dp un gd lawNm lawDef.2 L ad ccd (Cs.cl ⟨c1, c2, c3, c4, c5, c6, c7⟩) outer) (envX lawNm lawDef.2 L ad ccd (Cs.cl ⟨c1, c2, c3, c4, c5, c6, c7⟩)) E)
    (hret : ∀ m' sxs' ep' h' tk', Fr h₀ L h' m' → News h₀ L h' ((NA, namesO n0 n1 n2 n3 n4 n5 n6) :: (SX, W.listOf sxs'.toArray ep') :: rest) → KeptS m m' → IntsAre sxs' (sixs xs (List.range 7)) → Q .next { s with heap := h', toks := tk' }) :
    wpAny (model PySem.Challenge.rw_re0048_01.row.prog w) (ktrTop dp un gd lawNm lawDef.2 L ad ccd (Cs.cl ⟨c1, c2, c3, c4, c5, c6, c7⟩) outer) (exec (lawAt 10) (envX lawNm lawDef.2 L ad ccd (Cs.cl ⟨c1, c2, c3, c4, c5, c6, c7⟩))) Q E s := by
  refine fhK w p loose mean mg mb c1 c2 c3 c4 c5 c6 c7 m _ dp un gd ad ccd outer A₀ base h₀ L s Q E B F X N T ?_
  intro r t u v h1 k1 F1 N1 hr
  refine range_loop (n := 7) (fun k m₁ nx => KeptS m m₁ ∧ ∃ sxs' ep', nx = (NA, namesO n0 n1 n2 n3 n4 n5 n6) :: (SX, W.listOf sxs'.toArray ep') :: rest ∧ IntsAre sxs' (sixs xs (List.range k))) rfl hr (small7 (n := 7) (by decide)).1 (small7 (n := 7) (by decide)).2 rfl rfl hpo F1 N1 ?_ ?_ ?_
  · exact ⟨⟨⟨rfl, rfl, rfl, rfl⟩, rfl⟩, sxs, ep, rfl, hsx⟩
  · intro i t' m₁ nx h tk I own hi hnx hown hlt ⟨hK, sxs', ep', hnxe, hI'⟩ F2 N2
    subst hnxe
    have nN : NA ≠ I := hnx _ (.head _)
    have nS : SX ≠ I := hnx (SX, W.listOf sxs'.toArray ep') (.tail _ (.head _))
    have nR : ∀ p ∈ rest, p.1 ≠ I := fun p hp => hnx p (.tail _ (.tail _ hp))
    obtain ⟨⟨k1, k2, k3, k4⟩, k5⟩ := hK
    have st' := statK_more st hown nS
    obtain ⟨d0, d12⟩ := D6_bound hl hi
    have hell := sev_ell d0 d12
    have hte : ((D6 xs i).toNat % 3 == 0) = decide (Int.fmod (D6 xs i) 3 = 0) := taken_eq d0 rfl
    have nat0 : ((i : Nat) : Int).toNat = i := Int.toNat_natCast i
    obtain ⟨td, hdk⟩ := ints_get hID (i := i) (by rw [List.length_map, hl]; exact hi)
    rw [dot_get hl hi, ← nat0] at hdk
    obtain ⟨ra, q1, q2, q3, hra, hram⟩ := st'.lamp i hi
    rw [← nat0] at hra
    rw [nat0] at hdk hra
    have xb := xat_bound hl hb hi
    have hone := one_ok xb
    unfold oneOk at hone
    simp only [Bool.and_eq_true, decide_eq_true_eq] at hone
    obtain ⟨⟨ho1, ho2⟩, ho3⟩ := hone
    have hsz : sxs'.toArray.size ≤ sizeLine := by
      rw [List.size_toArray, hI'.length]
      refine Nat.le_trans (sixs_len _ _) ?_
      rw [List.length_range]
      exact le_size (Nat.le_trans (Nat.le_of_lt hi) (by decide))
    have hin : ∀ {sx : List Value} {e : Nat}, ∀ p ∈ ((NA, namesO n0 n1 n2 n3 n4 n5 n6) :: (SX, W.listOf sx.toArray e) :: rest), p ∈ ((NA, namesO n0 n1 n2 n3 n4 n5 n6) :: (SX, W.listOf sx.toArray e) :: (rest ++ own)) := fun p hp => by
      rcases List.mem_cons.mp hp with rfl | hp
      · exact .head _
      rcases List.mem_cons.mp hp with rfl | hp
      · exact .tail _ (.head _)
      · exact .tail _ (.tail _ (List.mem_append_left _ hp))
    have hof : ∀ {sx : List Value} {e : Nat}, ∀ p ∈ ((NA, namesO n0 n1 n2 n3 n4 n5 n6) :: (SX, W.listOf sx.toArray e) :: rest), p.1 ≠ I := fun p hp => by
      rcases List.mem_cons.mp hp with rfl | hp
      · exact nN
      rcases List.mem_cons.mp hp with rfl | hp
      · exact nS
      · exact nR p hp
    rw [bodyK_eq]
    cases htk : ((D6 xs i).toNat % 3 == 0) with
    | true =>
      rw [htk] at hell hte
      refine wpAny_execs_cons (k1t w p loose mean mg mb c1 c2 c3 c4 c5 c6 c7 (put (Str.ofString "k") (.int (i : Int) t') m₁) o3 NA n0 n1 n2 n3 n4 n5 n6 SX sxs'.toArray ep' (rest ++ own) i t' DA D LA ds vs rs (xs.map dot) xs (dot (xat xs i)) td ra _ _ _ q1 q2 q3 _ _ rfl (k2.trans hm2) (k3.trans hm3) (k1.trans hm1) (k5.trans hm5) (Int.natCast_nonneg i) (cast_lt7 hi)
        st'.c3m h3 st'.dt st'.nu st'.la hram hID hI hdk hra d0 (le_20' d12) hell ho1 ho2 hNS st'.offS hsz dp un gd ad ccd outer A₀ base h₀ L _ _ E B F2 X N2 T trivial (lt_w hdp (by decide)) (lt_u hu (by decide)) hpo ?_)
      intro v0 v1 v2 t2 ep2 h' tk' F3 N3
      dsimp only
      refine wpAny_execs_nil ?_
      rw [List.push_toArray] at N3
      refine TurnEnd.go (nx := (NA, namesO n0 n1 n2 n3 n4 n5 n6) :: (SX, W.listOf (sxs' ++ [_]).toArray ep2) :: rest) F3 N3 hin (fun p hp => .tail _ (.tail _ (List.mem_append_right _ hp))) hof ⟨⟨⟨k1, k2, k3, k4⟩, k5⟩, _, _, rfl, ?_⟩
      rw [sixs_succ]
      have e : sixs xs [i] = [Int.fmod (X6 xs i) 3] := by
        unfold sixs
        have q : sixF xs i = some (Int.fmod (X6 xs i) 3) := by
          unfold sixF; rw [if_pos (of_decide_eq_true hte.symm)]
        rw [List.filterMap_cons_some q]; rfl
      rw [e, fmod_swap xb.1 ho3]
      exact ints_snoc hI'
    | false =>
      rw [htk] at hell hte
      refine wpAny_execs_cons (k1f w p loose mean mg mb c1 c2 c3 c4 c5 c6 c7 (put (Str.ofString "k") (.int (i : Int) t') m₁) o3 NA n0 n1 n2 n3 n4 n5 n6 SX sxs'.toArray ep' (rest ++ own) i t' DA D LA ds vs rs (xs.map dot) xs (dot (xat xs i)) td ra _ _ _ q1 q2 q3 _ _ rfl (k2.trans hm2) (k3.trans hm3) (k1.trans hm1) (k5.trans hm5) (Int.natCast_nonneg i) (cast_lt7 hi)
        st'.c3m h3 st'.dt st'.nu st'.la hram hID hI hdk hra d0 (le_20' d12) hell ho1 ho2 hNS st'.offS hsz dp un gd ad ccd outer A₀ base h₀ L _ _ E B F2 X N2 T trivial (lt_w hdp (by decide)) (lt_u hu (by decide)) hpo ?_)
      intro h' tk' F3 N3
      dsimp only
      refine wpAny_execs_nil ?_
      refine TurnEnd.go (nx := (NA, namesO n0 n1 n2 n3 n4 n5 n6) :: (SX, W.listOf sxs'.toArray ep') :: rest) F3 N3 hin (fun p hp => .tail _ (.tail _ (List.mem_append_right _ hp))) hof ⟨⟨⟨k1, k2, k3, k4⟩, k5⟩, _, _, rfl, ?_⟩
      rw [sixs_succ]
      have e : sixs xs [i] = [] := by
        unfold sixs
        have q : sixF xs i = none := by
          unfold sixF; rw [if_neg (of_decide_eq_false hte.symm)]
        rw [List.filterMap_cons_none q]; rfl
      rw [e, List.append_nil]; exact hI'
  · intro m₁ nx h tk ⟨hK, sxs', ep', hnxe, hI'⟩ F2 N2
    subst hnxe
    refine wpAny_execs_nil ?_
    exact hret m₁ sxs' ep' h tk F2 N2 hK hI'
theorem loop_h (w : World) (p : Program) (loose : List Str) (mean : ExcName → Option Value) (mg mb : Str → Option Value) (c1 c2 c3 c4 c5 c6 c7 : Addr) (m : Str → Option Value) (rest : List (Addr × Obj)) (xs : List Int) (TH SX : Addr) (ths sxs : List Value) (e1 e2 : Nat) (hl : xs.length = 7)
    (hm1 : m (Str.ofString "threes") = some (.ref TH)) (hm2 : m (Str.ofString "sixes") = some (.ref SX)) (hI1 : IntsAre ths (thr xs trip)) (hI2 : IntsAre sxs (sixs xs (List.range 7)))
    (dp un : Nat) (gd : Option (List Code)) (ad : Addr) (ccd : Value) (outer : List Env) (A₀ : Around) (base h₀ : Heap) (L : Addr) (s : Shared) (Q : Flow → Shared → Prop) (E : Value → Shared → Prop)
    (B : Below A₀ base outer h₀) (F : Fr h₀ L s.heap m) (X : (hd.heap_39 w.params).In h₀) (N : News h₀ L s.heap ((SX, W.listOf sxs.toArray e2) :: (TH, W.listOf ths.toArray e1) :: rest)) (T : Top p loose mean mg mb h₀) (hdp : dp + 6 < recursionLimit) (hu : un + 20 * 6 < cLine)
    (hpo : PassesOwn (model PySem.Challenge.rw_re0048_01.row.prog w) (ktrTop dp un gd lawNm lawDef.2 L ad ccd (Cs.cl ⟨c1, c2, c3, c4, c5, c6, c7⟩) outer) (envX lawNm lawDef.2 L ad ccd (Cs.cl ⟨c1, c2, c3, c4, c5, c6, c7⟩)) E)
    (hret : ∀ m' h' tk', Fr h₀ L h' m' → Q .next { s with heap := h', toks := tk' }) :
    wpAny (model PySem.Challenge.rw_re0048_01.row.prog w) (ktrTop dp un gd lawNm lawDef.2 L ad ccd (Cs.cl ⟨c1, c2, c3, c4, c5, c6, c7⟩) outer) (exec (lawAt 11) (envX lawNm lawDef.2 L ad ccd (Cs.cl ⟨c1, c2, c3, c4, c5, c6, c7⟩))) Q E s := by
  refine fhT w p loose mean mg mb c1 c2 c3 c4 c5 c6 c7 m _ dp un gd ad ccd outer A₀ base h₀ L s Q E B F X N T ?_
  intro r t u v h1' k1 F1 N1 hr
  refine range_loop (n := 3) (fun k m₁ nx => m₁ (Str.ofString "threes") = some (.ref TH) ∧ m₁ (Str.ofString "sixes") = some (.ref SX) ∧ nx = (SX, W.listOf sxs.toArray e2) :: (TH, W.listOf ths.toArray e1) :: rest) rfl hr (small7 (n := 3) (by decide)).1 (small7 (n := 3) (by decide)).2 rfl rfl hpo F1 N1 ?_ ?_ ?_
  · exact ⟨hm1, hm2, rfl⟩
  · intro i t' m₁ nx h tk I own hi hnx hown hlt ⟨k1, k2, hnxe⟩ F2 N2
    subst hnxe
    rw [bodyH_eq]
    have hc := law_count hl (t := (i : Int)) ⟨Int.natCast_nonneg i, Int.ofNat_lt.mpr hi⟩
    refine wpAny_execs_cons (h1 w p loose mean mg mb ⟨c1, c2, c3, c4, c5, c6, c7⟩ (put (Str.ofString "thirds") (.int (i : Int) t') m₁) (rest ++ own) i t' TH SX ths sxs (thr xs trip) (sixs xs (List.range 7)) e1 e2 rfl k1 k2 hI1 hI2 hc dp un gd ad ccd outer A₀ base h₀ L _ _ E B F2 X N2 T trivial (lt_w hdp (by decide)) (lt_u hu (by decide)) hpo ?_)
    intro h' tk' F3 N3
    dsimp only
    refine wpAny_execs_nil ?_
    refine TurnEnd.go (nx := (SX, W.listOf sxs.toArray e2) :: (TH, W.listOf ths.toArray e1) :: rest) F3 N3 (fun p hp => ?_) (fun p hp => .tail _ (.tail _ (List.mem_append_right _ hp))) hnx ⟨k1, k2, rfl⟩
    rcases List.mem_cons.mp hp with rfl | hp
    · exact .head _
    rcases List.mem_cons.mp hp with rfl | hp
    · exact .tail _ (.head _)
    · exact .tail _ (.tail _ (List.mem_append_left _ hp))
  · intro m₁ nx h tk ⟨k1, k2, hnxe⟩ F2 N2
    refine wpAny_execs_nil ?_
    exact hret m₁ h tk F2
end Mine

end

section
open PySem PySem.W PyProof.Rows PySem.Calls
namespace Mine
local macro_rules | `(tactic| walk_at "nothing 0") => `(tactic| skip)
local macro_rules | `(tactic| walk_at "nothing 1") => `(tactic| skip)
local macro_rules | `(tactic| walk_at "nothing 2") => `(tactic| skip)
local macro_rules | `(tactic| walk_at "nothing 3") => `(tactic| skip)
local macro_rules | `(tactic| walk_at "nothing 4") => `(tactic| skip)
local macro_rules | `(tactic| walk_at "nothing 5") => `(tactic| skip)
local macro_rules | `(tactic| walk_at "nothing 6") => `(tactic| skip)
local macro_rules | `(tactic| walk_at "nothing 7") => `(tactic| skip)
local macro_rules | `(tactic| walk_at "nothing 8") => `(tactic| skip)
local macro_rules | `(tactic| walk_at "nothing 9") => `(tactic| skip)
local macro_rules | `(tactic| walk_at "nothing 10") => `(tactic| skip)
local macro_rules | `(tactic| walk_at "nothing 11") => `(tactic| skip)
local macro_rules | `(tactic| walk_at "nothing 12") => `(tactic| skip)
local macro_rules | `(tactic| walk_at "nothing 13") => `(tactic| skip)
set_option maxRecDepth 100000
set_option maxHeartbeats 4000000
theorem st12 : ∀ (w : World) (p : Program) (loose : List Str) (mean : ExcName → Option Value) (mg mb : Str → Option Value) (c1 c2 c3 c4 c5 c6 c7 : Addr) (m : Str → Option Value) (rest : List (Addr × Obj)),
    Blk w p loose mean mg mb 2 ⟨c1, c2, c3, c4, c5, c6, c7⟩ (lawAt 12) m rest (fun _ => True) (fun h₀ L s Q =>
      ∀ (tk' : Nat), Q (.ret (.bool true)) { s with toks := tk' }) := by
  dsimp only [Blk, Cs.cl]
  k_fill
  w_top off
  intro w p loose mean mg mb c1 c2 c3 c4 c5 c6 c7 m rest dp un gd a ccd outer A₀ base h₀ L s Q E B F X N T _ hdp hu hpo hret
  with_unfolding_all show wpAny _ _ (exec (Stmt.Return _ _) _) _ _ _
  k_steps
  exact hret _
theorem lamps_off {xs : List Int} {c1 c2 c3 c4 c5 c6 c7 : Addr} {rs : List Value} {tl : List (Addr × Obj)} (h : LampsAre xs c1 c2 c3 c4 c5 c6 c7 rs tl) : ∀ p ∈ tl, Off7 c1 c2 c3 c4 c5 c6 c7 p.1 := by
  intro p hp
  obtain ⟨i, hi, e⟩ := List.getElem_of_mem hp
  have hr : i < rs.length := by rw [h.1, ← h.2.1]; exact hi
  obtain ⟨_, _, _, _, _, _, _, o⟩ := h.2.2 i rs[i] p (List.getElem?_eq_getElem hr) (by rw [List.getElem?_eq_getElem hi, e])
  exact o
theorem lamps_get {xs : List Int} {c1 c2 c3 c4 c5 c6 c7 : Addr} {rs : List Value} {tl : List (Addr × Obj)} (h : LampsAre xs c1 c2 c3 c4 c5 c6 c7 rs tl) (hl : xs.length = 7) : ∀ i, i < 7 → ∃ a t1 t2 t3, rs[i]? = some (Value.ref a) ∧ (a, lampO (xat xs i) t1 t2 t3) ∈ tl := by
  intro i hi
  have hr : i < rs.length := by rw [h.1, hl]; exact hi
  have ht : i < tl.length := by rw [h.2.1, hl]; exact hi
  obtain ⟨x, t1, t2, t3, ex, ey, ep, _⟩ := h.2.2 i rs[i] tl[i] (List.getElem?_eq_getElem hr) (List.getElem?_eq_getElem ht)
  have hx : xat xs i = x := by unfold xat; rw [List.getD_eq_getElem?_getD, ex]; rfl
  refine ⟨tl[i].1, t1, t2, t3, by rw [List.getElem?_eq_getElem hr, ey], ?_⟩
  rw [hx, ← ep]
  exact List.getElem_mem ht
theorem lawDef_eq : lawDef.1 = [lawAt 0, lawAt 1, lawAt 2, lawAt 3, lawAt 4, lawAt 5, lawAt 6, lawAt 7, lawAt 8, lawAt 9, lawAt 10, lawAt 11, lawAt 12] := by with_unfolding_all rfl
theorem ne_lt {a b : Nat} (h : a < b) : a ≠ b := Nat.ne_of_lt h
theorem cs_more {c1 c2 c3 c4 c5 c6 c7 : Nat} (h : c1 < c2 ∧ c2 < c3 ∧ c3 < c4 ∧ c4 < c5 ∧ c5 < c6 ∧ c6 < c7) : c1 < c3 ∧ c1 < c4 ∧ c1 < c5 ∧ c1 < c6 ∧ c1 < c7 ∧ c2 < c4 ∧ c2 < c5 ∧ c2 < c6 ∧ c2 < c7 ∧ c3 < c5 ∧ c3 < c6 ∧ c3 < c7 ∧ c4 < c6 ∧ c4 < c7 ∧ c5 < c7 := by omega

theorem law_execs (w : World) (p : Program) (loose : List Str) (mean : ExcName → Option Value) (mg mb : Str → Option Value) (c1 c2 c3 c4 c5 c6 c7 : Addr) (m : Str → Option Value) (o1 o2 o3 o4 o5 o6 o7 : Obj) (z2 z3 z4 z5 z6 z7 : Option Value) (S : Addr) (items : List Value) (ns : List Int)
    (hlt : CsLt c1 c2 c3 c4 c5 c6 c7) (h1 : o1.data = .cell (some (.ref S))) (h2 : o2.data = .cell z2) (h3 : o3.data = .cell z3) (h4 : o4.data = .cell z4) (h5 : o5.data = .cell z5) (h6 : o6.data = .cell z6) (h7 : o7.data = .cell z7) (hI0 : IntsAre items ns) (hsz0 : items.toArray.size ≤ sizeLine)
    (dp un : Nat) (gd : Option (List Code)) (ad : Addr) (ccd : Value) (outer : List Env) (A₀ : Around) (base h₀ : Heap) (L : Addr) (s : Shared) (Q : Flow → Shared → Prop) (E : Value → Shared → Prop)
    (B : Below A₀ base outer h₀) (F : Fr h₀ L s.heap m) (X : (hd.heap_39 w.params).In h₀) (N : News h₀ L s.heap (ledC c1 c2 c3 c4 c5 c6 c7 o1 o2 o3 o4 o5 o6 o7)) (T : Top p loose mean mg mb h₀) (hS : h₀.IsList S items.toArray) (hdp : dp + 6 < recursionLimit) (hu : un + 20 * 6 < cLine)
    (hpo : PassesOwn (model PySem.Challenge.rw_re0048_01.row.prog w) (ktrTop dp un gd lawNm lawDef.2 L ad ccd (Cs.cl ⟨c1, c2, c3, c4, c5, c6, c7⟩) outer) (envX lawNm lawDef.2 L ad ccd (Cs.cl ⟨c1, c2, c3, c4, c5, c6, c7⟩)) E)
    (hret : ∀ m' h' tk', Fr h₀ L h' m' → Q (.ret (.bool true)) { s with heap := h', toks := tk' }) :
    wpAny (model PySem.Challenge.rw_re0048_01.row.prog w) (ktrTop dp un gd lawNm lawDef.2 L ad ccd (Cs.cl ⟨c1, c2, c3, c4, c5, c6, c7⟩) outer) (execs lawDef.1 (envX lawNm lawDef.2 L ad ccd (Cs.cl ⟨c1, c2, c3, c4, c5, c6, c7⟩))) Q E s := by
  obtain ⟨l13, l14, l15, l16, l17, l24, l25, l26, l27, l35, l36, l37, l46, l47, l57⟩ := cs_more hlt
  obtain ⟨l12, l23, l34, l45, l56, l67⟩ := id hlt
  have r1 := lt_w (k := 1) hdp (by decide)
  have r2 := lt_w (k := 2) hdp (by decide)
  have q1 := lt_u (k := 1) hu (by decide)
  have q2 := lt_u (k := 2) hu (by decide)
  rw [lawDef_eq]
  refine wpAny_execs_cons (st0 w p loose mean mg mb c1 c2 c3 c4 c5 c6 c7 m o1 o2 o3 o4 o5 o6 o7 z2 h2 hlt dp un gd ad ccd outer A₀ base h₀ L s _ E B F X N T trivial r1 q1 hpo ?_)
  intro H o2' t0 t1 t2 t3 t4 t5 t6 ep0 H1 k1 F1 N1 h2' lH
  dsimp only
  refine wpAny_execs_cons (st1 w p loose mean mg mb c1 c2 c3 c4 c5 c6 c7 m o1 o2' o3 o4 o5 o6 o7 H S t0 t1 t2 t3 t4 t5 t6 ep0 items ns h1 h2' hlt lH hI0 hsz0 dp un gd ad ccd outer A₀ base h₀ L _ _ E B F1 X N1 T hS r1 q1 hpo ?_)
  intro D vs xs H2 k2 F2 N2 oD hI hl hb
  dsimp only
  refine wpAny_execs_cons (st2 w p loose mean mg mb c1 c2 c3 c4 c5 c6 c7 m o1 o2' o3 o4 o5 o6 o7 D vs xs hlt oD hI hl hb dp un gd ad ccd outer A₀ base h₀ L _ _ E B F2 X N2 T trivial r2 q2 hpo ?_)
  intro LA rs tl H3 k3 F3 N3 oL hLs
  dsimp only
  obtain ⟨M, hM, F3⟩ : ∃ M, M = (put (Str.ofString "lamps") (.ref LA) (put (Str.ofString "numbers") (.ref D) m)) ∧ Fr h₀ L H3 M := ⟨_, rfl, F3⟩
  have hMn : M (Str.ofString "numbers") = some (.ref D) := by rw [hM]; rfl
  have hMl : M (Str.ofString "lamps") = some (.ref LA) := by rw [hM]; rfl
  rw [map_at hMn] at F3
  refine wpAny_execs_cons (st3 w p loose mean mg mb c1 c2 c3 c4 c5 c6 c7 M o1 o2' o3 o4 o5 o6 o7 D vs xs LA rs tl hlt oD oL hI hl dp un gd ad ccd outer A₀ base h₀ L _ _ E B F3 X N3 T trivial r1 q1 hpo ?_)
  intro DA ds H4 k4 F4 N4 oA hID
  dsimp only
  obtain ⟨M2, hM2, F4⟩ : ∃ M2, M2 = (put (Str.ofString "dots") (.ref DA) (put (Str.ofString "numbers") (.ref D) M)) ∧ Fr h₀ L H4 M2 := ⟨_, rfl, F4⟩
  have hm1 : M2 (Str.ofString "numbers") = some (.ref D) := by rw [hM2]; rfl
  have hm2 : M2 (Str.ofString "dots") = some (.ref DA) := by rw [hM2]; rfl
  have hm3 : M2 (Str.ofString "lamps") = some (.ref LA) := by rw [hM2]; exact hMl
  have off := lamps_off hLs
  have N4' := cb_drop (news := (c7, o7) :: (c6, o6) :: (c5, o5) :: (c4, o4) :: (c3, o3) :: (DA, W.listOf ds.toArray ds.length) :: (LA, W.listOf rs.toArray rs.length) :: (D, W.listOf vs.toArray vs.length) :: (c2, o2') :: (c1, o1) :: tl) N4 (fun q hq => by
    simp only [List.cons_append, List.nil_append, List.mem_cons] at hq ⊢
    rcases hq with h | h | h | h | h | h | h | h | h | h | h <;> simp only [h, true_or, or_true])
  have offR : ∀ x : Addr, DA ≠ x → LA ≠ x → D ≠ x → c2 ≠ x → c1 ≠ x → (∀ q ∈ tl, q.1 ≠ x) → ∀ q ∈ ((DA, W.listOf ds.toArray ds.length) :: (LA, W.listOf rs.toArray rs.length) :: (D, W.listOf vs.toArray vs.length) :: (c2, o2') :: (c1, o1) :: tl), q.1 ≠ x :=
    fun x a b c d e f => List.forall_mem_cons.mpr ⟨a, List.forall_mem_cons.mpr ⟨b, List.forall_mem_cons.mpr ⟨c, List.forall_mem_cons.mpr ⟨d, List.forall_mem_cons.mpr ⟨e, f⟩⟩⟩⟩⟩
  obtain ⟨D7, D6', D5, D4, D3', D2, D1⟩ := oD
  obtain ⟨L7, L6, L5, L4, L3, L2, L1⟩ := oL
  obtain ⟨A7, A6, A5, A4, A3, A2, A1⟩ := oA
  have of3 := offR c3 (Ne.symm A3) (Ne.symm L3) (Ne.symm D3') (ne_lt l23) (ne_lt l13) (fun q hq => Ne.symm (off q hq).2.2.2.2.1)
  have of4 := offR c4 (Ne.symm A4) (Ne.symm L4) (Ne.symm D4) (ne_lt l24) (ne_lt l14) (fun q hq => Ne.symm (off q hq).2.2.2.1)
  have of5 := offR c5 (Ne.symm A5) (Ne.symm L5) (Ne.symm D5) (ne_lt l25) (ne_lt l15) (fun q hq => Ne.symm (off q hq).2.2.1)
  have of6 := offR c6 (Ne.symm A6) (Ne.symm L6) (Ne.symm D6') (ne_lt l26) (ne_lt l16) (fun q hq => Ne.symm (off q hq).2.1)
  have of7 := offR c7 (Ne.symm A7) (Ne.symm L7) (Ne.symm D7) (ne_lt l27) (ne_lt l17) (fun q hq => Ne.symm (off q hq).1)
  generalize hR4 : ((DA, W.listOf ds.toArray ds.length) :: (LA, W.listOf rs.toArray rs.length) :: (D, W.listOf vs.toArray vs.length) :: (c2, o2') :: (c1, o1) :: tl) = R4 at N4' of3 of4 of5 of6 of7
  have i1 : (DA, W.listOf ds.toArray ds.length) ∈ R4 := by rw [← hR4]; exact .head _
  have i2 : (LA, W.listOf rs.toArray rs.length) ∈ R4 := by rw [← hR4]; exact .tail _ (.head _)
  have i3 : (D, W.listOf vs.toArray vs.length) ∈ R4 := by rw [← hR4]; exact .tail _ (.tail _ (.head _))
  have i4 : ∀ q ∈ tl, q ∈ R4 := fun q hq => by rw [← hR4]; exact .tail _ (.tail _ (.tail _ (.tail _ (.tail _ hq))))
  have lam := lamps_get hLs hl
  clear hR4 offR
  refine wpAny_execs_cons (st4 w p loose mean mg mb c1 c2 c3 c4 c5 c6 c7 M2 o1 o2' o3 o4 o5 o6 o7 R4 z3 h3 hlt of3 dp un gd ad ccd outer A₀ base h₀ L _ _ E B F4 X N4' T trivial r2 q2 hpo ?_)
  intro NA n0 n1 n2 n3 n4 n5 n6 o3' H5 k5 F5 N5 e3 lNA offN
  dsimp only
  have N5' := cb_drop (news := (NA, namesO n0 n1 n2 n3 n4 n5 n6) :: (c7, o7) :: (c6, o6) :: (c5, o5) :: (c3, o3') :: (c4, o4) :: R4) N5 (fun q hq => by
    simp only [List.mem_cons] at hq ⊢
    rcases hq with h | h | h | h | h | h | h <;> simp only [h, true_or, or_true])
  refine wpAny_execs_cons (st5 w p loose mean mg mb c1 c2 c3 c4 c5 c6 c7 M2 o1 o2' o3' o4 o5 o6 o7 R4 z4 NA n0 n1 n2 n3 n4 n5 n6 e3 h4 hlt lNA of4 dp un gd ad ccd outer A₀ base h₀ L _ _ E B F5 X N5' T trivial r2 q2 hpo ?_)
  intro PA po kvs o4' H6 k6 F6 N6 e4 lPA offP lo hdict hPl
  dsimp only
  have N6' := cb_drop (news := (PA, po) :: (NA, namesO n0 n1 n2 n3 n4 n5 n6) :: (c3, o3') :: (c4, o4') :: (c7, o7) :: (c6, o6) :: (c5, o5) :: R4) N6 (fun q hq => by
    simp only [List.mem_cons] at hq ⊢
    rcases hq with h | h | h | h | h | h | h | h <;> simp only [h, true_or, or_true])
  refine wpAny_execs_cons (st6 w p loose mean mg mb c1 c2 c3 c4 c5 c6 c7 M2 o3' o4' _ NA n0 n1 n2 n3 n4 n5 n6 PA po kvs e3 e4 lo hdict hPl.1 dp un gd ad ccd outer A₀ base h₀ L _ _ E B F6 X N6' T trivial r2 q2 hpo ?_)
  intro H7 k7 F7 N7
  dsimp only
  refine wpAny_execs_cons (st7 w p loose mean mg mb c1 c2 c3 c4 c5 c6 c7 M2 _ dp un gd ad ccd outer A₀ base h₀ L _ _ E B F7 X N7 T trivial r2 q2 hpo ?_)
  intro TH H8 k8 F8 N8 offT
  dsimp only
  have N8' := cb_drop (news := ledT TH c5 c6 c7 [] 0 o5 o6 o7 ((PA, po) :: (NA, namesO n0 n1 n2 n3 n4 n5 n6) :: (c3, o3') :: (c4, o4') :: R4)) N8 (fun q hq => by
    simp only [ledT, List.mem_cons] at hq ⊢
    rcases hq with h | h | h | h | h | h | h | h | h <;> simp only [h, true_or, or_true])
  have oT : ∀ q ∈ ((PA, po) :: (NA, namesO n0 n1 n2 n3 n4 n5 n6) :: (c3, o3') :: (c4, o4') :: R4), q.1 ≠ TH := fun q hq => offT q (by
    simp only [List.mem_cons] at hq ⊢
    rcases hq with h | h | h | h | h <;> simp only [h, true_or, or_true])
  have oc : ∀ x : Addr, PA ≠ x → NA ≠ x → c3 ≠ x → c4 ≠ x → (∀ q ∈ R4, q.1 ≠ x) → ∀ q ∈ ((PA, po) :: (NA, namesO n0 n1 n2 n3 n4 n5 n6) :: (c3, o3') :: (c4, o4') :: R4), q.1 ≠ x :=
    fun x a b c d f => List.forall_mem_cons.mpr ⟨a, List.forall_mem_cons.mpr ⟨b, List.forall_mem_cons.mpr ⟨c, List.forall_mem_cons.mpr ⟨d, f⟩⟩⟩⟩
  have t7 : @Ne Nat c7 TH := offT (c7, o7) (by simp only [List.mem_cons, true_or, or_true])
  have t6' : @Ne Nat c6 TH := offT (c6, o6) (by simp only [List.mem_cons, true_or, or_true])
  have t5' : @Ne Nat c5 TH := offT (c5, o5) (by simp only [List.mem_cons, true_or, or_true])
  have st : Stat xs c4 c5 c6 c7 D DA LA PA TH o4' po vs ds rs ((PA, po) :: (NA, namesO n0 n1 n2 n3 n4 n5 n6) :: (c3, o3') :: (c4, o4') :: R4) :=
    ⟨.tail _ (.tail _ (.tail _ (.tail _ i3))), .tail _ (.tail _ (.tail _ (.tail _ i1))), .tail _ (.tail _ (.tail _ (.tail _ i2))),
      fun i hi => by obtain ⟨a, u1, u2, u3, g1, g2⟩ := lam i hi; exact ⟨a, u1, u2, u3, g1, .tail _ (.tail _ (.tail _ (.tail _ (i4 _ g2))))⟩, .head _, .tail _ (.tail _ (.tail _ (.head _))),
      oc c5 (Nat.ne_of_gt (Nat.lt_trans l57 lPA)) (Nat.ne_of_gt (Nat.lt_trans l57 lNA)) (ne_lt l35) (ne_lt l45) of5,
      oc c6 (Nat.ne_of_gt (Nat.lt_trans l67 lPA)) (Nat.ne_of_gt (Nat.lt_trans l67 lNA)) (ne_lt l36) (ne_lt l46) of6,
      oc c7 (Nat.ne_of_gt lPA) (Nat.ne_of_gt lNA) (ne_lt l37) (ne_lt l47) of7, oT⟩
  have kn : Know xs c4 c5 c6 c7 PA TH o4' po vs ds kvs := ⟨hl, hb, hI, hID, e4, hPl, l56, l67, t5', t6', t7⟩
  refine wpAny_execs_cons (loop_a w p loose mean mg mb c1 c2 c3 c4 c5 c6 c7 (put (Str.ofString "threes") (.ref TH) M2) _ xs D DA LA PA TH o4' po o5 o6 o7 vs ds rs [] kvs 0 z5 z6 z7 st kn hdict hm1 hm2 hm3 rfl h5 h6 h7 .nil dp un gd ad ccd outer A₀ base h₀ L _ _ E B F8 X N8' T hdp hu hpo ?_)
  intro m9 nx H9 k9 F9 N9 ⟨g1, g2, g3, g4⟩ ⟨ths, ep9, p5, p6, p7, y5, y6, y7, hnx, _, _, _, hth⟩
  subst hnx
  dsimp only
  refine wpAny_execs_cons (st9 w p loose mean mg mb c1 c2 c3 c4 c5 c6 c7 m9 _ dp un gd ad ccd outer A₀ base h₀ L _ _ E B F9 X N9 T trivial r2 q2 hpo ?_)
  intro SX H10 k10 F10 N10 offS
  dsimp only
  have iR : ∀ q ∈ ((PA, po) :: (NA, namesO n0 n1 n2 n3 n4 n5 n6) :: (c3, o3') :: (c4, o4') :: R4), q ∈ ledT TH c5 c6 c7 ths ep9 p5 p6 p7 ((PA, po) :: (NA, namesO n0 n1 n2 n3 n4 n5 n6) :: (c3, o3') :: (c4, o4') :: R4) := fun q hq => .tail _ (.tail _ (.tail _ (.tail _ hq)))
  have hNS : @Ne Nat NA SX := offS (NA, namesO n0 n1 n2 n3 n4 n5 n6) (iR _ (.tail _ (.head _)))
  have stK : StatK xs c3 D DA LA SX o3' vs ds rs (ledT TH c5 c6 c7 ths ep9 p5 p6 p7 ((PA, po) :: (NA, namesO n0 n1 n2 n3 n4 n5 n6) :: (c3, o3') :: (c4, o4') :: R4)) :=
    ⟨iR _ st.nu, iR _ st.dt, iR _ st.la, fun i hi => by obtain ⟨a, u1, u2, u3, g1, g2⟩ := st.lamp i hi; exact ⟨a, u1, u2, u3, g1, iR _ g2⟩, iR _ (.tail _ (.tail _ (.head _))), offS⟩
  have N10' := cb_drop (news := (NA, namesO n0 n1 n2 n3 n4 n5 n6) :: (SX, W.listOf ([] : List Value).toArray 0) :: ledT TH c5 c6 c7 ths ep9 p5 p6 p7 ((PA, po) :: (NA, namesO n0 n1 n2 n3 n4 n5 n6) :: (c3, o3') :: (c4, o4') :: R4)) N10 (fun q hq => by
    rcases List.mem_cons.mp hq with rfl | hq
    · exact .tail _ (iR _ (.tail _ (.head _)))
    · exact hq)
  refine wpAny_execs_cons (loop_k w p loose mean mg mb c1 c2 c3 c4 c5 c6 c7 (put (Str.ofString "sixes") (.ref SX) m9) _ xs NA D DA LA SX o3' n0 n1 n2 n3 n4 n5 n6 vs ds rs [] 0 stK hl hb hI hID e3 hNS (g1.trans hm1) (g2.trans hm2) (g3.trans hm3) rfl .nil dp un gd ad ccd outer A₀ base h₀ L _ _ E B F10 X N10' T hdp hu hpo ?_)
  intro m11 sxs ep11 H11 k11 F11 N11 ⟨⟨j1, j2, j3, j4⟩, j5⟩ hsx
  dsimp only
  have N11' := cb_drop (news := (SX, W.listOf sxs.toArray ep11) :: (TH, W.listOf ths.toArray ep9) :: []) N11 (fun q hq => by
    rcases List.mem_cons.mp hq with rfl | hq
    · exact .tail _ (.head _)
    rcases List.mem_cons.mp hq with rfl | hq
    · exact .tail _ (.tail _ (.head _))
    · cases hq)
  refine wpAny_execs_cons (loop_h w p loose mean mg mb c1 c2 c3 c4 c5 c6 c7 m11 [] xs TH SX ths sxs ep9 ep11 hl (j4.trans g4) j5 hth hsx dp un gd ad ccd outer A₀ base h₀ L _ _ E B F11 X N11' T hdp hu hpo ?_)
  intro m12 H12 k12 F12
  dsimp only
  refine wpAny_execs_cons (st12 w p loose mean mg mb c1 c2 c3 c4 c5 c6 c7 m12 [] dp un gd ad ccd outer A₀ base h₀ L _ _ E B F12 X (fun _ h => nomatch h) T trivial r2 q2 hpo ?_)
  intro k13
  dsimp only
  exact hret m12 _ _ F12
end Mine

end

section
open PySem PySem.W PyProof.Rows PySem.Calls
namespace Mine
theorem size_63 {n : Nat} (h : ¬ ((63 : Nat) : Int) < (n : Int)) : n ≤ sizeLine := by rw [sizeLine_eq]; omega
theorem cs_plus {L : Nat} : CsLt (L + 1) (L + 1 + 1) (L + 1 + 1 + 1) (L + 1 + 1 + 1 + 1) (L + 1 + 1 + 1 + 1 + 1) (L + 1 + 1 + 1 + 1 + 1 + 1) (L + 1 + 1 + 1 + 1 + 1 + 1 + 1) := by
  refine ⟨?_, ?_, ?_, ?_, ?_, ?_⟩ <;> exact Nat.lt_succ_self _
set_option maxRecDepth 100000 in
set_option maxHeartbeats 8000000 in
theorem law_holds : PySem.Challenge.rw_re0048_01.Holds := hd (by
  k_go0
  rename Fr _ _ _ _ => F0
  rename News _ _ _ _ => N0
  rename Below _ _ _ _ => B0
  rename Frag.In _ _ => X0
  rename Top _ _ _ _ _ _ => T0
  rename Heap.IsList _ _ _ => S0
  rename IntsAre _ _ => I0
  with_unfolding_all refine' law_execs _ _ _ _ _ _ _ _ _ _ _ _ _ _ _ _ _ _ _ _ _ _ _ _ _ _ _ _ _ _ cs_plus ?h1 ?h2 ?h3 ?h4 ?h5 ?h6 ?h7 I0 ?hsz _ _ _ _ _ _ _ _ _ _ _ _ _ B0 F0 X0 N0 T0 S0 ?hdp ?hu ?hpo ?hret
  case h2 => with_reducible assumption
  case h3 => with_reducible assumption
  case h4 => with_reducible assumption
  case h5 => with_reducible assumption
  case h6 => with_reducible assumption
  case h7 => with_reducible assumption
  case h1 => exact Eq.trans (by with_reducible assumption) (by with_unfolding_all rfl)
  case hsz => rw [List.size_toArray, I0.length]; exact size_63 (by assumption)
  case hdp => decide
  case hu => ktr_units
  case hpo => passes_own
  case hret =>
    intro m' h' tk' F'
    dsimp only
    k_steps)
end Mine

end

set_option maxRecDepth 100000 in
set_option maxHeartbeats 8000000 in
theorem PySem.Challenge.cw_re0048_01_holds : PySem.Challenge.rw_re0048_01.Holds := by
  exact Mine.law_holds
