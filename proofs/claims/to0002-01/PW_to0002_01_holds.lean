import PyProof.Rows.All
import Wide.All
import OpenK.AllK
import Wide.FinOn
import PySem.Challenge.RW_to0002_01
set_option Elab.async false

section
open PySem PySem.W PyProof.Rows
namespace Mine
set_option maxRecDepth 100000 in
set_option maxHeartbeats 8000000 in
open_top hd for PySem.Challenge.rw_to0002_01
end Mine
end
section
open PySem PySem.W PyProof.Rows PySem.Calls
set_option maxRecDepth 100000
namespace Mine
def hi3 (x y z : UInt64) : UInt64 := if (Float64.cmp x y == some .lt) = true then (if (Float64.cmp y z == some .lt) = true then z else y) else (if (Float64.cmp x z == some .lt) = true then z else x)
def lo3 (x y z : UInt64) : UInt64 := if (Float64.cmp y x == some .lt) = true then (if (Float64.cmp z y == some .lt) = true then z else y) else (if (Float64.cmp z x == some .lt) = true then z else x)
section
variable {prog : Program} {w : World} {A : Around} {E : Value → Shared → Prop} {s : Shared} {Q : Value → Shared → Prop} {x y z r : UInt64} {t u v : Tok} {h₀ : Heap} {L : Addr} {m : Str → Option Value} {news : List (Addr × Obj)}
theorem best_hi {V : Value} (h : #[Value.float x t, .float y u, .float z v][argBest (fun i j => Flt.ltV (#[Value.float x t, .float y u, .float z v].getD j .none) (#[Value.float x t, .float y u, .float z v].getD i .none)) 2]? = some V) : ∃ k, V = .float (hi3 x y z) k := by
  simp only [argBest] at h
  unfold hi3
  cases h1 : (Float64.cmp x y == some Ordering.lt) <;> cases h2 : (Float64.cmp y z == some Ordering.lt) <;> cases h3 : (Float64.cmp x z == some Ordering.lt) <;>
    simp [Flt.ltV, h1, h2, h3] at h <;> (subst h; simp)
theorem best_lo {V : Value} (h : #[Value.float x t, .float y u, .float z v][argBest (fun i j => Flt.ltV (#[Value.float x t, .float y u, .float z v].getD i .none) (#[Value.float x t, .float y u, .float z v].getD j .none)) 2]? = some V) : ∃ k, V = .float (lo3 x y z) k := by
  simp only [argBest] at h
  unfold lo3
  cases h1 : (Float64.cmp y x == some Ordering.lt) <;> cases h2 : (Float64.cmp z y == some Ordering.lt) <;> cases h3 : (Float64.cmp z x == some Ordering.lt) <;>
    simp [Flt.ltV, h1, h2, h3] at h <;> (subst h; simp)
theorem nums3 : ∀ V ∈ #[Value.float x t, .float y u, .float z v], Flt.NumV V := by
  intro V hV
  simp at hV
  rcases hV with rfl | rfl | rfl <;> exact .float _ _
theorem max3 (hh : A.handled = none) (F : Fr h₀ L s.heap m) (N : News h₀ L s.heap news) (e : hi3 x y z = r)
    (h : ∀ h' tk k, s.toks ≤ tk → Fr h₀ L h' m → News h₀ L h' news → Q (.float r k) { s with heap := h', toks := tk }) :
    wpAny (model prog w) A (call (.builtin "max") [.float x t, .float y u, .float z v]) Q E s := by
  have hT : (s.heap.push { cls := .type "tuple", data := .seq #[.float x t, .float y u, .float z v] }).IsTuple s.heap.objs.size #[.float x t, .float y u, .float z v] := ⟨_, Heap.get?_push_size _ rfl, rfl, 0, rfl⟩
  have hsz : (s.heap.push { cls := .type "tuple", data := .seq #[.float x t, .float y u, .float z v] }).objs.size = s.heap.objs.size + 1 := Heap.size_push ..
  refine wpAny_with_toks (Nat.le_refl _) ?_
  refine call_max_three (wpAny_pyIter_tuple hT ⟨_, [_, s.heap.objs.size], [_], _, _, _, _, rfl, Walks.tuple (A := A.in1) hh _ s.heap.objs.size (by rw [hsz]; exact Nat.ne_of_lt (Nat.lt_succ_self _)) _,
    ⟨⟨_, Heap.get?_push_size _ rfl, rfl, rfl⟩, hT.push _⟩, fun c hc => ?_, by simp, Flt.cmpOf_gt _ nums3, fun V h' tk hP hk => ?_⟩)
  · show c < ((s.heap.push _).push _).objs.size
    rw [Heap.size_push, hsz]
    rcases List.mem_cons.mp hc with rfl | hc
    · rw [hsz]; exact Nat.lt_succ_self _
    · rw [List.mem_singleton.mp hc]; exact Nat.lt_succ_of_lt (Nat.lt_succ_self _)
  · have kp : ∀ c o, s.heap.get? c = some o → h'.get? c = some o := fun c o q => by
      refine hk c o (fun hm => ?_) (Heap.get?_push_of_some _ (Heap.get?_push_of_some _ q))
      have lt := Heap.lt_size q
      rw [List.mem_singleton.mp hm, hsz] at lt
      exact Nat.lt_irrefl _ (Nat.lt_of_succ_lt lt)
    obtain ⟨k, rfl⟩ := best_hi hP
    rw [e]
    exact fun hle => h h' tk k hle (F.grownK kp) (N.grown kp)
theorem min3 (hh : A.handled = none) (F : Fr h₀ L s.heap m) (N : News h₀ L s.heap news) (e : lo3 x y z = r)
    (h : ∀ h' tk k, s.toks ≤ tk → Fr h₀ L h' m → News h₀ L h' news → Q (.float r k) { s with heap := h', toks := tk }) :
    wpAny (model prog w) A (call (.builtin "min") [.float x t, .float y u, .float z v]) Q E s := by
  have hT : (s.heap.push { cls := .type "tuple", data := .seq #[.float x t, .float y u, .float z v] }).IsTuple s.heap.objs.size #[.float x t, .float y u, .float z v] := ⟨_, Heap.get?_push_size _ rfl, rfl, 0, rfl⟩
  have hsz : (s.heap.push { cls := .type "tuple", data := .seq #[.float x t, .float y u, .float z v] }).objs.size = s.heap.objs.size + 1 := Heap.size_push ..
  refine wpAny_with_toks (Nat.le_refl _) ?_
  refine call_min_three (wpAny_pyIter_tuple hT ⟨_, [_, s.heap.objs.size], [_], _, _, _, _, rfl, Walks.tuple (A := A.in1) hh _ s.heap.objs.size (by rw [hsz]; exact Nat.ne_of_lt (Nat.lt_succ_self _)) _,
    ⟨⟨_, Heap.get?_push_size _ rfl, rfl, rfl⟩, hT.push _⟩, fun c hc => ?_, by simp, Flt.cmpOf_lt _ nums3, fun V h' tk hP hk => ?_⟩)
  · show c < ((s.heap.push _).push _).objs.size
    rw [Heap.size_push, hsz]
    rcases List.mem_cons.mp hc with rfl | hc
    · rw [hsz]; exact Nat.lt_succ_self _
    · rw [List.mem_singleton.mp hc]; exact Nat.lt_succ_of_lt (Nat.lt_succ_self _)
  · have kp : ∀ c o, s.heap.get? c = some o → h'.get? c = some o := fun c o q => by
      refine hk c o (fun hm => ?_) (Heap.get?_push_of_some _ (Heap.get?_push_of_some _ q))
      have lt := Heap.lt_size q
      rw [List.mem_singleton.mp hm, hsz] at lt
      exact Nat.lt_irrefl _ (Nat.lt_of_succ_lt lt)
    obtain ⟨k, rfl⟩ := best_lo hP
    rw [e]
    exact fun hle => h h' tk k hle (F.grownK kp) (N.grown kp)
end
end Mine
end
section
open PySem PySem.W PyProof.Rows PySem.Calls
set_option maxRecDepth 100000
namespace Mine
local macro_rules | `(tactic| walk_at "ite") => `(tactic| (k_closed; first | refine ite_pos (by decide +kernel) ?_ | refine ite_neg (by decide +kernel) ?_))

local macro_rules | `(tactic| walk_at "call builtin:max") => `(tactic| ((with_reducible show wpAny _ _ (call _ [Value.float _ _, Value.float _ _, Value.float _ _]) _ _ _); (rename News _ _ _ _ => N'); (rename Fr _ _ _ _ => F'); (rename hi3 _ _ _ = _ => hM'); refine max3 rfl F' N' hM' ?_; clear N'; intro _ _ _ hle' _ _; (try dsimp only at hle')))
local macro_rules | `(tactic| walk_at "call builtin:min") => `(tactic| ((with_reducible show wpAny _ _ (call _ [Value.float _ _, Value.float _ _, Value.float _ _]) _ _ _); (rename News _ _ _ _ => N'); (rename Fr _ _ _ _ => F'); (rename lo3 _ _ _ = _ => hM'); refine min3 rfl F' N' hM' ?_; clear N'; intro _ _ _ hle' _ _; (try dsimp only at hle')))
abbrev f1 : UInt64 := 0x3ff0000000000000
abbrev f2 : UInt64 := 0x4000000000000000
abbrev f4 : UInt64 := 0x4010000000000000
abbrev f6 : UInt64 := 0x4018000000000000
def sixth (x : UInt64) : Int := Flt.toInt Float64.truncOf (Float64.mul x f6)
def hsvK (k : Int) (p q t : UInt64) : UInt64 × UInt64 × UInt64 :=
  if k = 0 then (f1, t, p) else if k = 1 then (q, f1, p) else if k = 2 then (p, f1, t) else if k = 3 then (p, q, f1) else if k = 4 then (t, p, f1) else (f1, p, q)
def hsvF (x : UInt64) : UInt64 × UInt64 × UInt64 :=
  hsvK ((sixth x).fmod 6) (Float64.mul f1 (Float64.sub f1 f1)) (Float64.mul f1 (Float64.sub f1 (Float64.mul f1 (Float64.sub (Float64.mul x f6) (Float64.ofInt (sixth x))))))
    (Float64.mul f1 (Float64.sub f1 (Float64.mul f1 (Float64.sub f1 (Float64.sub (Float64.mul x f6) (Float64.ofInt (sixth x)))))))
def hlsF (r g b : UInt64) : UInt64 :=
  let rc := Float64.div (Float64.sub f1 r) (Float64.sub f1 0)
  let gc := Float64.div (Float64.sub f1 g) (Float64.sub f1 0)
  let bc := Float64.div (Float64.sub f1 b) (Float64.sub f1 0)
  (Float64.divmod (Float64.div (if (Float64.cmp r f1 == some Ordering.eq) = true then Float64.sub bc gc else if (Float64.cmp g f1 == some Ordering.eq) = true then Float64.sub (Float64.add f2 rc) bc else Float64.sub (Float64.add f4 gc) rc) f6) f1).2

theorem hsv_end {x : UInt64} {k : Int} {r : UInt64 × UInt64 × UInt64} (e : (Flt.toInt Float64.truncOf (Float64.mul x f6)).fmod 6 = k)
    (h : hsvK k (Float64.mul f1 (Float64.sub f1 f1)) (Float64.mul f1 (Float64.sub f1 (Float64.mul f1 (Float64.sub (Float64.mul x f6) (Float64.ofInt (sixth x))))))
    (Float64.mul f1 (Float64.sub f1 (Float64.mul f1 (Float64.sub f1 (Float64.sub (Float64.mul x f6) (Float64.ofInt (sixth x))))))) = r) : hsvF x = r := by
  subst e; exact h
theorem trip {a b c a' b' c' : UInt64} (h : (a, b, c) = (a', b', c')) : a = a' ∧ b = b' ∧ c = c' := by
  cases h; exact ⟨rfl, rfl, rfl⟩
theorem hsv_none (k : Int) (h0 : k.fmod 6 ≠ 0) (h1 : k.fmod 6 ≠ 1) (h2 : k.fmod 6 ≠ 2) (h3 : k.fmod 6 ≠ 3) (h4 : k.fmod 6 ≠ 4) (h5 : k.fmod 6 ≠ 5) : False := by
  have a := fmod_lo k (n := 6) (by decide)
  have b := fmod_hi k (n := 6) (by decide)
  omega

set_option maxHeartbeats 4000000 in
theorem hsv_c {w : World} {mean : ExcName → Option Value} {mg mb : Str → Option Value} (dp un : Nat) (gd : Option (List Code)) (cn : Str) (cs : Scope) (a : Addr) (ccd : Value) (cl : List (Str × Addr)) (outer : List Env) (A₀ : Around) (base h₀ : Heap) (L : Addr) (m : Str → Option Value) (news : List (Addr × Obj)) (s : Shared) (Q E : Value → Shared → Prop)
    (B : Below A₀ base outer h₀) (F : Fr h₀ L s.heap m) (X : (Mine.hd.heap_39 w.params).In h₀) (N : News h₀ L s.heap news) (T : Top Mine.hd.view_39 (looseW Mine.hd.view_39 []) mean mg mb h₀) (hk : cs.kind = .function)
    (htk : 1 ≤ s.toks) (x : UInt64) (t1 t2 t3 : Tok) (hd : dp + 1 < recursionLimit) (hu : un + 8 < cLine)
    (hx : Float64.isFinite (Float64.mul x f6) = true) (hy : (Flt.toInt Float64.truncOf (Float64.mul x f6)).natAbs < 2 ^ 1024 - 2 ^ 970)
    (r g b : UInt64) (hF : hsvF x = (r, g, b))
    (ret : ∀ (u1 u2 u3 : Tok) (c : Addr) (n : Nat) (h' : Heap) (tk' : Nat), 1 ≤ tk' → Fr h₀ L h' m → News h₀ L h' ((c, ({ cls := .type "tuple", data := .seq [.float r u1, .float g u2, .float b u3].toArray n } : Obj)) :: news) → Q (.ref c) { s with heap := h', toks := tk' }) :
    wpAny (model PySem.Challenge.rw_to0002_01.row.prog w) (ktrTop dp un gd cn cs L a ccd cl outer) (call (.ref 28) [.float x t1, .float f1 t2, .float f1 t3]) Q E s := by
  w_top off
  revert X; k_fill; intro X
  refine wpAny_with_toks (n := 1) htk ?_
  refine wpAny_call ?_
  k_dflt cell_enter
  k_steps
  · obtain ⟨rfl, rfl, rfl⟩ := trip ((hsv_end (by assumption) rfl).symm.trans hF)
    exact ret _ _ _ _ _ _ _ (by assumption) (by assumption) (by assumption)
  · obtain ⟨rfl, rfl, rfl⟩ := trip ((hsv_end (by assumption) rfl).symm.trans hF)
    exact ret _ _ _ _ _ _ _ (by assumption) (by assumption) (by assumption)
  · obtain ⟨rfl, rfl, rfl⟩ := trip ((hsv_end (by assumption) rfl).symm.trans hF)
    exact ret _ _ _ _ _ _ _ (by assumption) (by assumption) (by assumption)
  · obtain ⟨rfl, rfl, rfl⟩ := trip ((hsv_end (by assumption) rfl).symm.trans hF)
    exact ret _ _ _ _ _ _ _ (by assumption) (by assumption) (by assumption)
  · obtain ⟨rfl, rfl, rfl⟩ := trip ((hsv_end (by assumption) rfl).symm.trans hF)
    exact ret _ _ _ _ _ _ _ (by assumption) (by assumption) (by assumption)
  · obtain ⟨rfl, rfl, rfl⟩ := trip ((hsv_end (by assumption) rfl).symm.trans hF)
    exact ret _ _ _ _ _ _ _ (by assumption) (by assumption) (by assumption)
  · exact (hsv_none (sixth x) (by assumption) (by assumption) (by assumption) (by assumption) (by assumption) (by assumption)).elim

theorem l_half : Float64.div (Float64.add f1 0) f2 = 0x3fe0000000000000 := by decide +kernel
theorem s_one : Float64.div (Float64.sub f1 0) (Float64.add f1 0) = f1 := by decide +kernel
theorem hls_fin {h₀ h' : Heap} {L c : Addr} {news : List (Addr × Obj)} {n : Nat} {r g b h : UInt64} {u1 u2 u3 : Tok} (hh : hlsF r g b = h)
    (N : News h₀ L h' ((c, ({ cls := .type "tuple", data := .seq [.float (hlsF r g b) u1, .float (Float64.div (Float64.add f1 0) f2) u2, .float (Float64.div (Float64.sub f1 0) (Float64.add f1 0)) u3].toArray n } : Obj)) :: news)) :
    News h₀ L h' ((c, ({ cls := .type "tuple", data := .seq [.float h u1, .float 0x3fe0000000000000 u2, .float f1 u3].toArray n } : Obj)) :: news) := by
  rw [l_half, s_one, hh] at N; exact N
theorem hls_one {r g b : UInt64} (h : (Float64.cmp r f1 == some Ordering.eq) = true) : hlsF r g b = (Float64.divmod (Float64.div (Float64.sub (Float64.div (Float64.sub f1 b) (Float64.sub f1 0)) (Float64.div (Float64.sub f1 g) (Float64.sub f1 0))) f6) f1).2 := by
  unfold hlsF; simp only [if_pos h]
theorem hls_two {r g b : UInt64} (h : (Float64.cmp r f1 == some Ordering.eq) = false) (h' : (Float64.cmp g f1 == some Ordering.eq) = true) : hlsF r g b = (Float64.divmod (Float64.div (Float64.sub (Float64.add f2 (Float64.div (Float64.sub f1 r) (Float64.sub f1 0))) (Float64.div (Float64.sub f1 b) (Float64.sub f1 0))) f6) f1).2 := by
  unfold hlsF; simp only [h, if_pos h', Bool.false_eq_true, if_false]
theorem hls_three {r g b : UInt64} (h : (Float64.cmp r f1 == some Ordering.eq) = false) (h' : (Float64.cmp g f1 == some Ordering.eq) = false) : hlsF r g b = (Float64.divmod (Float64.div (Float64.sub (Float64.add f4 (Float64.div (Float64.sub f1 g) (Float64.sub f1 0))) (Float64.div (Float64.sub f1 r) (Float64.sub f1 0))) f6) f1).2 := by
  unfold hlsF; simp only [h, h', Bool.false_eq_true, if_false]

end Mine
end
section
open PySem PySem.W PyProof.Rows PySem.Calls
set_option maxRecDepth 100000
namespace Mine
local macro_rules | `(tactic| walk_at "ite") => `(tactic| (k_closed; first | refine ite_pos (by decide +kernel) ?_ | refine ite_neg (by decide +kernel) ?_))

local macro_rules | `(tactic| walk_at "call builtin:max") => `(tactic| ((with_reducible show wpAny _ _ (call _ [Value.float _ _, Value.float _ _, Value.float _ _]) _ _ _); (rename News _ _ _ _ => N'); (rename Fr _ _ _ _ => F'); (rename hi3 _ _ _ = _ => hM'); refine max3 rfl F' N' hM' ?_; clear N'; intro _ _ _ hle' _ _; (try dsimp only at hle')))
local macro_rules | `(tactic| walk_at "call builtin:min") => `(tactic| ((with_reducible show wpAny _ _ (call _ [Value.float _ _, Value.float _ _, Value.float _ _]) _ _ _); (rename News _ _ _ _ => N'); (rename Fr _ _ _ _ => F'); (rename lo3 _ _ _ = _ => hM'); refine min3 rfl F' N' hM' ?_; clear N'; intro _ _ _ hle' _ _; (try dsimp only at hle')))
local macro_rules | `(tactic| walk_at "execs cons") => `(tactic| (refine wpAny_execs_cons (wpAny_with_toks (n := 1) ?myt ?_); (case myt => (try dsimp only); omega); (try dsimp only)))
local macro_rules | `(tactic| walk_at "forall") => `(tactic| ((with_reducible show 1 ≤ _ → _); intro hTk'; (try dsimp only at hTk')))
set_option maxHeartbeats 4000000 in
theorem hls_c {w : World} {mean : ExcName → Option Value} {mg mb : Str → Option Value} (dp un : Nat) (gd : Option (List Code)) (cn : Str) (cs : Scope) (a : Addr) (ccd : Value) (cl : List (Str × Addr)) (outer : List Env) (A₀ : Around) (base h₀ : Heap) (L : Addr) (m : Str → Option Value) (news : List (Addr × Obj)) (s : Shared) (Q E : Value → Shared → Prop)
    (B : Below A₀ base outer h₀) (F : Fr h₀ L s.heap m) (X : (Mine.hd.heap_39 w.params).In h₀) (N : News h₀ L s.heap news) (T : Top Mine.hd.view_39 (looseW Mine.hd.view_39 []) mean mg mb h₀) (hk : cs.kind = .function)
    (htk : 1 ≤ s.toks) (r g b : UInt64) (t1 t2 t3 : Tok) (hd : dp + 1 < recursionLimit) (hu : un + 8 < cLine)
    (hhi : hi3 r g b = f1) (hlo : lo3 r g b = 0) (h : UInt64) (hh : hlsF r g b = h)
    (ret : ∀ (u1 u2 u3 : Tok) (c : Addr) (n : Nat) (h' : Heap) (tk' : Nat), 1 ≤ tk' → u1 ≠ 0 → u2 ≠ 0 → u3 ≠ 0 → Fr h₀ L h' m → News h₀ L h' ((c, ({ cls := .type "tuple", data := .seq [.float h u1, .float 0x3fe0000000000000 u2, .float f1 u3].toArray n } : Obj)) :: news) → Q (.ref c) { s with heap := h', toks := tk' }) :
    wpAny (model PySem.Challenge.rw_to0002_01.row.prog w) (ktrTop dp un gd cn cs L a ccd cl outer) (call (.ref 21) [.float r t1, .float g t2, .float b t3]) Q E s := by
  w_top off
  revert X; k_fill; intro X
  refine wpAny_with_toks (n := 1) htk ?_
  refine wpAny_call ?_
  k_dflt cell_enter
  k_steps
  · refine ret _ _ _ _ _ _ _ ?_ ?_ ?_ ?_ ?_ (hls_fin hh (by rw [hls_one (by assumption)]; assumption))
    all_goals first | exact Nat.succ_ne_zero _ | assumption | omega | exact Nat.ne_of_gt (by assumption)
  · refine ret _ _ _ _ _ _ _ ?_ ?_ ?_ ?_ ?_ (hls_fin hh (by rw [hls_two (by assumption) (by assumption)]; assumption))
    all_goals first | exact Nat.succ_ne_zero _ | assumption | omega | exact Nat.ne_of_gt (by assumption)
  · refine ret _ _ _ _ _ _ _ ?_ ?_ ?_ ?_ ?_ (hls_fin hh (by rw [hls_three (by assumption) (by assumption)]; assumption))
    all_goals first | exact Nat.succ_ne_zero _ | assumption | omega | exact Nat.ne_of_gt (by assumption)
end Mine
end
section
open PySem PySem.W PyProof.Rows PySem.Calls PySem.SeqAt
set_option maxRecDepth 100000
namespace Mine
abbrev quoF (a b : Int) : UInt64 := Float64.ofFrac (decide (a < 0) != decide (b < 0)) a.natAbs b.natAbs
structure PaintOk (x h : UInt64) (r g b : UInt64) : Prop where
  fin : Float64.isFinite (Float64.mul x f6) = true
  small : (Flt.toInt Float64.truncOf (Float64.mul x f6)).natAbs < 2 ^ 1024 - 2 ^ 970
  rgb : hsvF x = (r, g, b)
  hi : hi3 r g b = f1
  lo : lo3 r g b = 0
  hue : hlsF r g b = h
  self : (Float64.cmp h h == some Ordering.eq) = true
def paintB (x h : UInt64) : Bool :=
  let c := hsvF x
  Float64.isFinite (Float64.mul x f6) && decide ((Flt.toInt Float64.truncOf (Float64.mul x f6)).natAbs < 2 ^ 64) && (hi3 c.1 c.2.1 c.2.2 == f1) && (lo3 c.1 c.2.1 c.2.2 == 0) && (hlsF c.1 c.2.1 c.2.2 == h) && (Float64.cmp h h == some Ordering.eq)
theorem paint_of {x h : UInt64} (e : paintB x h = true) : ∃ r g b, PaintOk x h r g b := by
  unfold paintB at e
  simp only [Bool.and_eq_true, beq_iff_eq, decide_eq_true_eq] at e
  obtain ⟨⟨⟨⟨⟨a, b⟩, c⟩, d⟩, f⟩, k⟩ := e
  refine ⟨_, _, _, a, Nat.lt_of_lt_of_le b ?_, rfl, c, d, f, by rw [k]; rfl⟩
  decide +kernel
theorem paint2 : ∀ i : Fin 8, paintB (quoF (i.val : Int) 2) (quoF (Int.fdiv ((i.val : Int) * 256) 2 % 256) 256) = true := by decide +kernel
theorem paint4 : ∀ i : Fin 16, paintB (quoF (i.val : Int) 4) (quoF (Int.fdiv ((i.val : Int) * 256) 4 % 256) 256) = true := by decide +kernel
theorem paint8 : ∀ i : Fin 32, paintB (quoF (i.val : Int) 8) (quoF (Int.fdiv ((i.val : Int) * 256) 8 % 256) 256) = true := by decide +kernel
theorem paint_ok {d : Int} (hd : d = 2 ∨ d = 4 ∨ d = 8) {i : Nat} (hi : (i : Int) < 4 * d) : ∃ r g b, PaintOk (quoF (i : Int) d) (quoF (Int.fdiv ((i : Int) * 256) d % 256) 256) r g b := by
  rcases hd with rfl | rfl | rfl
  · exact paint_of (paint2 ⟨i, by omega⟩)
  · exact paint_of (paint4 ⟨i, by omega⟩)
  · exact paint_of (paint8 ⟨i, by omega⟩)
section
variable {A : Around} {s : Shared}
theorem none_booked {w : World} {h₀ h : Heap} (X : (Mine.hd.heap_39 w.params).In h₀) (k : ∀ b o, h₀.get? b = some o → h.get? b = some o) : NoneBooked h :=
  ⟨fun _ => none, ⟨_, #[], 0, k _ _ (X cStatics { cls := Value.none, data := .dict #[] } rfl), rfl, (fun e he => by simp at he), fun _ => rfl⟩, rfl⟩
theorem isSame_float {M : Model} {E : Value → Shared → Prop} {x : UInt64} {t u : Tok} {Q : Bool → Shared → Prop} (ht : t ≠ 0) (hu : u ≠ 0) (hb : NoneBooked s.heap) (hq : ∀ b, Q b s) :
    wpAny M A (isSame (.float x t) (.float x u)) Q E s := by
  show wpAny M A (isSame.created (x == x && !Float64.isNaN x) t u) Q E s
  unfold isSame.created
  refine wpAny_ite_split (fun h => ?_) (fun _ => ?_)
  · exfalso
    simp only [Bool.or_eq_true, beq_iff_eq] at h
    exact h.elim ht hu
  refine wpAny_ite_split (fun _ => wpAny_pure (hq _)) (fun _ => ?_)
  refine wpAny_ite_split (fun _ => wpAny_pure (hq _)) (fun _ => ?_)
  refine wpAny_bind (wpAny_sharingNotTold_none hb ?_)
  refine wpAny_ite_split (fun h => absurd h Bool.false_ne_true) (fun _ => ?_)
  refine wpAny_bind (wpAny_sharingNotTold_none hb ?_)
  refine wpAny_ite_split (fun h => absurd h Bool.false_ne_true) (fun _ => ?_)
  exact wpAny_bind (wpAny_rule (wpAny_bind (wpAny_askSetting (wpAny_pure (hq _)))))
theorem eqAt_float {x : UInt64} {t u : Tok} (h : (Float64.cmp x x == some Ordering.eq) = true) (ht : t ≠ 0) (hu : u ≠ 0) (hb : NoneBooked s.heap) : EqAt A s (.float x t) (.float x u) true := fun prog w E Q hq => by
  unfold eqBool
  refine wpAny_holding ?_
  refine wpAny_ite_split (fun _ => wpAny_bind (wpAny_rule (wpAny_pure hq))) (fun _ => ?_)
  refine wpAny_bind (isSame_float ht hu hb fun b => ?_)
  cases b
  · refine wpAny_ite_split (fun h => absurd h Bool.false_ne_true) (fun _ => ?_)
    refine wpAny_bind (AutoFloatOps.eq_0 ?_)
    rw [h]
    exact wpAny_truthy_bool hq
  · exact wpAny_ite_split (fun _ => wpAny_pure hq) (fun h => absurd rfl h)
theorem ne3 {prog : Program} {w : World} {E : Value → Shared → Prop} {Q : Value → Shared → Prop} {a b L : Addr} {n k : Nat} {x y z : UInt64} {t1 t2 t3 u1 u2 u3 : Tok} {h₀ : Heap} {m : Str → Option Value} {news : List (Addr × Obj)}
    (X : (Mine.hd.heap_39 w.params).In h₀) (F : Fr h₀ L s.heap m) (N : News h₀ L s.heap news) (ha : (a, ({ cls := .type "tuple", data := .seq [.float x t1, .float y t2, .float z t3].toArray n } : Obj)) ∈ news)
    (hb : (b, ({ cls := .type "tuple", data := .seq [.float x u1, .float y u2, .float z u3].toArray k } : Obj)) ∈ news)
    (ht1 : t1 ≠ 0) (ht2 : t2 ≠ 0) (ht3 : t3 ≠ 0) (hu1 : u1 ≠ 0) (hu2 : u2 ≠ 0) (hu3 : u3 ≠ 0)
    (hx : (Float64.cmp x x == some Ordering.eq) = true) (hy : (Float64.cmp y y == some Ordering.eq) = true) (hz : (Float64.cmp z z == some Ordering.eq) = true) (hu : A.units < cLine) (h : Q (.bool false) s) :
    wpAny (model prog w) A (compareOp .NotEq (.ref a) (.ref b)) Q E s := by
  have hB := none_booked X F.keep
  refine RcNeAt.tuples (e := fun _ => true) ⟨_, (N _ ha).1, rfl, n, rfl⟩ ⟨_, (N _ hb).1, rfl, k, rfl⟩ hu (fun j h1 h2 => ?_) prog w E Q ?_
  · have h3 : j < 3 := h1
    rcases j with _ | _ | _ | j
    · exact eqAt_float hx ht1 hu1 hB
    · exact eqAt_float hy ht2 hu2 hB
    · exact eqAt_float hz ht3 hu3 hB
    · omega
  · exact h
end
end Mine
end
section
open PySem PySem.W PyProof.Rows PySem.Calls
set_option maxRecDepth 100000
namespace Mine
set_option maxHeartbeats 4000000 in
theorem isn_c {w : World} {mean : ExcName → Option Value} {mg mb : Str → Option Value} (dp un : Nat) (gd : Option (List Code)) (cn : Str) (cs : Scope) (a : Addr) (ccd : Value) (cl : List (Str × Addr)) (outer : List Env) (A₀ : Around) (base h₀ : Heap) (L : Addr) (m : Str → Option Value) (news : List (Addr × Obj)) (s : Shared) (Q E : Value → Shared → Prop)
    (B : Below A₀ base outer h₀) (F : Fr h₀ L s.heap m) (X : (Mine.hd.heap_39 w.params).In h₀) (N : News h₀ L s.heap news) (T : Top Mine.hd.view_39 (looseW Mine.hd.view_39 []) mean mg mb h₀) (hk : cs.kind = .function)
    (x : Int) (t1 : Tok) (hd : dp + 1 < recursionLimit) (hu : un + 8 < cLine)
    (ret : ∀ (h' : Heap) (tk' : Nat), Fr h₀ L h' m → News h₀ L h' news → Q (.bool (decide (x ≥ 256))) { s with heap := h', toks := tk' }) :
    wpAny (model PySem.Challenge.rw_to0002_01.row.prog w) (ktrTop dp un gd cn cs L a ccd cl outer) (call (.ref 42) [.int x t1]) Q E s := by
  w_top off
  revert X; k_fill; intro X
  refine wpAny_call ?_
  k_dflt cell_enter
  k_steps
  exact ret _ _ (by assumption) (by assumption)
end Mine
end
section
open PySem PySem.W PyProof.Rows PySem.Calls
set_option maxRecDepth 100000
namespace Mine
theorem off4 {news : List (Addr × Obj)} {L : Addr} (h : ∀ p ∈ news, p.1 < L) : OwnOff news [L + 1, L + 1 + 1, L + 1 + 1 + 1, L + 1 + 1 + 1 + 1] := by
  intro p hp b hb e
  have lt : @LT.lt Nat _ p.1 L := h p hp
  rw [e] at lt
  simp only [List.mem_cons, List.not_mem_nil, or_false] at hb
  have : @Eq Nat b (L+1) ∨ @Eq Nat b (L+1+1) ∨ @Eq Nat b (L+1+1+1) ∨ @Eq Nat b (L+1+1+1+1) := hb
  omega
section
variable {prog : Program} {w : World} {A : Around} {E : Value → Shared → Prop} {s : Shared} {env : Env} {h₀ : Heap} {x : Str} {body : List Stmt} {Q : Flow → Shared → Prop}
theorem unrPost_mono {L I : Addr} {s₁ s₂ : Shared} {it : Obj} {r r' : (Str → Option Value) → List (Addr × Obj) → Prop} {f : Flow} (h : ∀ m n, r m n → r' m n) (p : UnrPost h₀ L s₁ I it r Q f s₂) : UnrPost h₀ L s₁ I it r' Q f s₂ := by
  cases f with
  | ret v => exact p
  | brk => exact p
  | next => obtain ⟨h', tk, m', n', a, b, c, d, e⟩ := p; exact ⟨h', tk, m', n', a, b, c, d, h _ _ e⟩
  | cont => obtain ⟨h', tk, m', n', a, b, c, d, e⟩ := p; exact ⟨h', tk, m', n', a, b, c, d, h _ _ e⟩
theorem list_inv {I : Addr} {lp : Addr × Obj} (J : List Value → (Str → Option Value) → List (Addr × Obj) → Prop)
    (turn : ∀ v r m news it h tk, J (v :: r) m news → it.cls = .type "list_iterator" → Fr h₀ env.locals h (fun y => if y = x then some v else m y) → News h₀ env.locals h ((I, it) :: news) →
      wpAny (model prog w) A (execs body env) (UnrPost h₀ env.locals { s with heap := h, toks := tk } I it (fun m' n' => lp ∈ n' ∧ J r m' n') Q) E { s with heap := h, toks := tk })
    (done : ∀ m news h tk, J [] m news → Fr h₀ env.locals h m → News h₀ env.locals h news → Q .next { s with heap := h, toks := tk }) :
    ∀ r m news, J r m news → ListRest prog w A E h₀ env x body Q s I lp r m news
  | [], m, news, j => ListRest.zero fun h tk F N => done m news h tk j F N
  | v :: r, m, news, j => ListRest.succ fun it h tk c F N =>
      wpAny_mono (turn v r m news it h tk j c F N) (fun _ _ p => unrPost_mono (fun _ _ q => ⟨q.1, list_inv J turn done r _ _ q.2⟩) p) fun _ _ e => e
theorem range_inv {I : Addr} {a : Int} {n : Nat} (J : Nat → (Str → Option Value) → List (Addr × Obj) → Prop)
    (turn : ∀ i m news t h tk it, i < n → J i m news → it.cls = .type "range_iterator" → Fr h₀ env.locals h (fun y => if y = x then some (.int (a + (i : Int)) t) else m y) → News h₀ env.locals h ((I, it) :: news) →
      wpAny (model prog w) A (execs body env) (UnrPost h₀ env.locals { s with heap := h, toks := tk } I it (J (i + 1)) Q) E { s with heap := h, toks := tk })
    (done : ∀ m news h tk, J n m news → Fr h₀ env.locals h m → News h₀ env.locals h news → Q .next { s with heap := h, toks := tk }) :
    ∀ k i m news, i + k = n → J i m news → RangeRest prog w A E h₀ env x body Q s I a n k i m news
  | 0, i, m, news, e, j => RangeRest.zero fun h tk F N => done m news h tk (by rw [← e]; exact j) F N
  | k + 1, i, m, news, e, j => RangeRest.succ fun t h tk F N =>
      wpAny_mono (turn i m news t h tk _ (by omega) j rfl F N) (fun _ _ p => unrPost_mono (fun _ _ q => range_inv J turn done k (i + 1) _ _ (by omega) q) p) fun _ _ e => e
end
end Mine
end
section
open PySem PySem.W PyProof.Rows PySem.Calls
set_option maxRecDepth 100000
namespace Mine
def win (d : Int) (xs : List Int) (k : Int) : Int := ((xs.drop (k - d + 1).toNat).take ((k + 1).toNat - (k - d + 1).toNat)).sum
def spreadF (d : Int) (xs : List Int) : List Int := (rangeKs 0 (xs.length + d - 1).toNat).map (win d xs)
local macro_rules | `(tactic| walk_at "my enterC") => `(tactic| (k_dflt (refine' code_defC ?k1 ?k2 ?k3 ?k4 ?k5 ?kA ?kF ?kK ?k6 ?k7 ?k8 ?k9 ?kB ?kD ?_ ?c2 ?c3 ?c4; (case kA => exact rfl); (case kF => exact rfl); (case kK => assumption); (case k1 => k_asm); (case k2 => k_asm); (case k3 => k_asm); (case k4 => k_asm); (case k5 => k_asm); (case k6 => k_is); (case k7 => k_is); (case k8 => ktr_room); (case k9 => exact BindsTo.of_eq rfl); (case kB => exact rfl); (case kD => decide +kernel); (case c2 => exact rfl); (case c3 => exact rfl); (case c4 => exact rfl); k_whole; intro g' L' h' tk' cells' FG' F' N' Y' B' X' T' l1; (have l2 := l1 _ (List.Mem.head _)); (replace l1 := off4 fun p hp => l1 p (List.Mem.tail _ hp)); (dsimp only at l2); (replace l2 := ltN l2); k_cells Y'; (try simp only [List.cons_append, List.nil_append] at N'); (try dsimp only); (try k_lift B'); (try k_fold))))
local macro_rules | `(tactic| walk_at "call ref") => `(tactic| (k_here; (with_reducible show wpAny _ _ (call (Value.ref 42) [Value.int _ _]) _ _ _); k_dflt (refine' isn_c _ _ _ _ _ _ _ _ _ _ _ _ _ _ _ _ _ _ ?myiB ?myiF ?myiX ?myiN ?myiT ?myiK _ _ ?myid ?myiu ?_; (case myiB => k_asm); (case myiF => k_asm); (case myiX => k_asm); (case myiN => k_asm); (case myiT => k_asm); (case myiK => first | exact rfl | assumption); (case myid => ktr_room); (case myiu => ktr_units); intro h' tk' F' N'; (try dsimp only)); (try k_sweep)))
local macro_rules | `(tactic| walk_at "call ref") => `(tactic| (k_here; (with_reducible show wpAny _ _ (call (Value.ref 28) [Value.float _ _, Value.float _ _, Value.float _ _]) _ _ _); k_dflt (refine' hsv_c _ _ _ _ _ _ _ _ _ _ _ _ _ _ _ _ _ _ ?myvB ?myvF ?myvX ?myvN ?myvT ?myvK ?myvt _ _ _ _ ?myvd ?myvu ?myvx ?myvy _ _ _ ?myvh ?_; (case myvB => k_asm); (case myvF => k_asm); (case myvX => k_asm); (case myvN => k_asm); (case myvT => k_asm); (case myvK => first | exact rfl | assumption); (case myvt => first | assumption | exact Nat.le_add_left _ _ | omega); (case myvd => ktr_room); (case myvu => ktr_units); (case myvx => assumption); (case myvy => assumption); (case myvh => assumption); intro u1' u2' u3' c' n' h' tk' htk' F' N'; (try dsimp only)); (try k_sweep)))
local macro_rules | `(tactic| walk_at "call ref") => `(tactic| (k_here; (with_reducible show wpAny _ _ (call (Value.ref 21) [Value.float _ _, Value.float _ _, Value.float _ _]) _ _ _); k_dflt (refine' hls_c _ _ _ _ _ _ _ _ _ _ _ _ _ _ _ _ _ _ ?mysB ?mysF ?mysX ?mysN ?mysT ?mysK ?myst _ _ _ _ _ _ ?mysd ?mysu ?mysx ?mysy _ ?mysh ?_; (case mysB => k_asm); (case mysF => k_asm); (case mysX => k_asm); (case mysN => k_asm); (case mysT => k_asm); (case mysK => first | exact rfl | assumption); (case myst => first | assumption | exact Nat.le_add_left _ _ | omega); (case mysd => ktr_room); (case mysu => ktr_units); (case mysx => assumption); (case mysy => assumption); (case mysh => assumption); intro u1' u2' u3' c' n' h' tk' htk' hu1' hu2' hu3' F' N'; (try dsimp only)); (try k_sweep)))
local macro_rules | `(tactic| walk_at "compareOp NotEq ref ref") => `(tactic| (k_here; k_dflt (refine' ne3 ?mynX ?mynF ?mynN ?myna ?mynb ?mynp ?mynq ?mynr ?mynt ?mynu ?mynv ?mynx ?myny ?mynz ?mynl ?_; (case mynX => k_asm); (case mynF => k_asm); (case mynN => k_asm); (case myna => kcf_m); (case mynb => kcf_m); (case mynp => assumption); (case mynq => assumption); (case mynr => assumption); (case mynt => exact Nat.succ_ne_zero _); (case mynu => exact Nat.succ_ne_zero _); (case mynv => exact Nat.succ_ne_zero _); (case mynx => assumption); (case myny => decide +kernel); (case mynz => decide +kernel); (case mynl => ktr_units)); (try dsimp only)))
local macro_rules | `(tactic| k_mem) => `(tactic| kcf_m)
local macro_rules | `(tactic| walk_at "eval Name") => `(tactic| (k_here; (with_reducible show wpAny _ _ (eval (Expr.Name _ _) (compEnvC _ _ _ _)) _ _ _); k_dflt (refine kcf_cell (by k_asm) (by rfl) (by kcf_m) (by k_asm) ?_); (try dsimp only)))
local macro_rules | `(tactic| walk_at "subscriptTail") => `(tactic| (k_here; (with_reducible show wpAny _ _ (subscriptTail _ _ (Value.ref _) (Value.int _ _)) _ _ _); k_dflt (refine' ksa_sub ?myg1 ?myg2 ?myg3 ?myg4 ?myg5 ?myg6 ?_ ?myg7; (case myg1 => k_asm); (case myg2 => kcf_m); (case myg3 => with_reducible assumption); (case myg4 => assumption); (case myg5 => assumption); (case myg6 => assumption); (case myg7 => with_unfolding_all rfl)); intro _))
local macro_rules | `(tactic| walk_at "getItem ref int") => `(tactic| (k_here; (with_reducible show wpAny _ _ (getItem (Value.ref _) (Value.int _ _)) _ _ _); k_dflt (refine' ksa_get ?myh1 ?myh2 ?myh3 ?myh4 ?myh5 ?myh6 ?_; (case myh1 => k_asm); (case myh2 => kcf_m); (case myh3 => with_reducible assumption); (case myh4 => assumption); (case myh5 => assumption); (case myh6 => assumption)); intro _))
local macro_rules | `(tactic| walk_at "setItem ref int") => `(tactic| (k_here; (with_reducible show wpAny _ _ (PySem.setItem (Value.ref _) (Value.int _ _) (Value.int _ _)) _ _ _); k_dflt (refine' ksa_set ?myj1 ?myj2 ?myj3 ?myj4 ?myj5 ?myj6 ?myj7 ?_; (case myj1 => k_asm); (case myj2 => k_asm); (case myj3 => k_upd); (case myj4 => with_reducible assumption); (case myj5 => assumption); (case myj6 => assumption); (case myj7 => assumption)); intro h' F' N' hi' hl' hs'; (try k_sweep)))
def iter {α : Type} : Nat → (α → α) → α → α
  | 0, _, a => a
  | n + 1, f, a => f (iter n f a)
theorem ifif {α : Type} {a : Str} {u v : α} {f : Str → α} : (fun y => if y = a then u else (if y = a then v else f y)) = fun y => if y = a then u else f y := by
  funext y
  by_cases h : y = a
  · simp only [if_pos h]
  · simp only [if_neg h]
theorem take_min {α : Type} (a b : Nat) (xs : List α) : (xs.drop b).take (min a xs.length - b) = (xs.drop b).take (a - b) := by
  rw [List.take_eq_take_iff, List.length_drop]
  omega
theorem win_eq (d k : Int) (xs : List Int) : (List.take (min (k + 1).toNat xs.length - (if k - d + 1 > 0 then k - d + 1 else 0).toNat) (List.drop (if k - d + 1 > 0 then k - d + 1 else 0).toNat xs)).sum = win d xs k := by
  have e : (if k - d + 1 > 0 then k - d + 1 else 0).toNat = (k - d + 1).toNat := by split <;> omega
  rw [e, take_min]
  rfl
theorem allLt_mem {d : Nat} : ∀ {l : List (Addr × Obj)}, AllLt d l → ∀ p ∈ l, @LT.lt Nat _ p.1 d
  | [], _, _, h => nomatch h
  | _ :: _, h, p, hp => by
    rcases List.mem_cons.mp hp with rfl | hp
    · exact h.1
    · exact allLt_mem h.2 p hp
theorem fr_to {h₀ h' : Heap} {L : Addr} {m m' : Str → Option Value} (F : Fr h₀ L h' m) (e : ∀ y, m y = m' y) : Fr h₀ L h' m' := (funext e : m = m') ▸ F
def carF (d : Int) (xs : List Int) (n : Nat) : Nat → List Int
  | 0 => List.replicate n 0
  | i + 1 => (carF d xs n i).set (i / d.toNat) ((carF d xs n i).getD (i / d.toNat) 0 + xs.getD i 0)
theorem reorder {x1 x2 x3 x4 : Option Value} {M : Str → Option Value} :
    (fun z => if z = Str.ofString "y" then x4 else (fun y => if y = Str.ofString "turns" then x1 else if y = Str.ofString "symbol" then x2 else if y = Str.ofString "y" then x3 else M y) z) =
    fun y => if y = Str.ofString "turns" then x1 else if y = Str.ofString "symbol" then x2 else if y = Str.ofString "y" then x4 else M y := by
  funext z
  by_cases h : z = Str.ofString "y"
  · subst h; rfl
  · simp only [if_neg h]
theorem reorder2 {x1 x2 x3 x4 : Option Value} {M : Str → Option Value} :
    (fun y => if y = Str.ofString "symbol" then x3 else if y = Str.ofString "turns" then x4 else if y = Str.ofString "turns" then x1 else if y = Str.ofString "symbol" then x2 else M y) =
    fun y => if y = Str.ofString "symbol" then x3 else if y = Str.ofString "turns" then x4 else M y := by
  funext z
  by_cases h : z = Str.ofString "symbol"
  · simp only [if_pos h]
  · by_cases h' : z = Str.ofString "turns"
    · simp only [if_neg h, if_pos h']
    · simp only [if_neg h, if_neg h']
theorem reorder3 {x1 x2 x3 x4 : Option Value} {M : Str → Option Value} :
    (fun y => if y = Str.ofString "symbol" then x3 else if y = Str.ofString "turns" then x4 else if y = Str.ofString "symbol" then x1 else if y = Str.ofString "turns" then x2 else M y) =
    fun y => if y = Str.ofString "symbol" then x3 else if y = Str.ofString "turns" then x4 else M y := by
  funext z
  by_cases h : z = Str.ofString "symbol"
  · simp only [if_pos h]
  · by_cases h' : z = Str.ofString "turns"
    · simp only [if_neg h, if_pos h']
    · simp only [if_neg h, if_neg h']
theorem len_iter (d : Int) (hd : 2 ≤ d) (ws : List Int) : ∀ k, ((iter k (spreadF d) ws).length : Int) = ws.length + k * (d - 1)
  | 0 => by simp [iter]
  | k + 1 => by
    have ih := len_iter d hd ws k
    show (((rangeKs 0 ((iter k (spreadF d) ws).length + d - 1).toNat).map (win d (iter k (spreadF d) ws))).length : Int) = _
    rw [List.length_map, rangeKs_length, ih, Int.natCast_succ, Int.add_mul]
    have : 0 ≤ (k : Int) * (d - 1) := Int.mul_nonneg (by omega) (by omega)
    omega
theorem len_all {d : Int} (hdd : d = 2 ∨ d = 4 ∨ d = 8) {ws xs : List Int} (hxs : xs = iter (ws.length - ([] : List Value).length) (spreadF d) ws) : (xs.length : Int) = ws.length * d := by
  have e := len_iter d (by omega) ws ws.length
  rw [hxs, List.length_nil, Nat.sub_zero, e]
  rcases hdd with rfl | rfl | rfl <;> omega
theorem idx_lt {d : Int} (hdd : d = 2 ∨ d = 4 ∨ d = 8) {ws xs : List Int} (hws : ws.length ≤ 4) {i : Nat} (hin : i < xs.length) (hxs : xs = iter (ws.length - ([] : List Value).length) (spreadF d) ws) : (i : Int) < 4 * d := by
  have e := len_all hdd hxs
  rcases hdd with rfl | rfl | rfl <;> omega
theorem carF_len (d : Int) (xs : List Int) (n : Nat) : ∀ i, (carF d xs n i).length = n
  | 0 => List.length_replicate
  | i + 1 => by
    show ((carF d xs n i).set _ _).length = n
    rw [List.length_set, carF_len d xs n i]
theorem turn_eq {d : Int} (hdd : d = 2 ∨ d = 4 ∨ d = 8) (i : Nat) {tu : Int} (h : Int.fdiv ((i : Int) * 256) d % 256 + 256 * tu = Int.fdiv ((i : Int) * 256) d) : tu = ((i / d.toNat : Nat) : Int) := by
  rcases hdd with rfl | rfl | rfl
  · rw [Int.fdiv_eq_ediv_of_nonneg _ (by decide)] at h; show tu = ((i / 2 : Nat) : Int); omega
  · rw [Int.fdiv_eq_ediv_of_nonneg _ (by decide)] at h; show tu = ((i / 4 : Nat) : Int); omega
  · rw [Int.fdiv_eq_ediv_of_nonneg _ (by decide)] at h; show tu = ((i / 8 : Nat) : Int); omega
theorem turn_lt {d : Int} (hdd : d = 2 ∨ d = 4 ∨ d = 8) {i n : Nat} {k : Nat} (hin : i < k) (e : (k : Int) = n * d) : ((i / d.toNat : Nat) : Int) < n := by
  rcases hdd with rfl | rfl | rfl
  · show ((i / 2 : Nat) : Int) < n; omega
  · show ((i / 4 : Nat) : Int) < n; omega
  · show ((i / 8 : Nat) : Int) < n; omega
def carry (d : Int) (ws : List Int) : List Int := carF d (iter ws.length (spreadF d) ws) ws.length (iter ws.length (spreadF d) ws).length
set_option maxHeartbeats 8000000 in
theorem car_c {w : World} {mean : ExcName → Option Value} {mg mb : Str → Option Value} (dp un : Nat) (gd : Option (List Code)) (cn : Str) (cs : Scope) (a : Addr) (ccd : Value) (cl : List (Str × Addr)) (outer : List Env) (A₀ : Around) (base h₀ : Heap) (L : Addr) (m : Str → Option Value) (news : List (Addr × Obj)) (s : Shared) (Q E : Value → Shared → Prop)
    (B : Below A₀ base outer h₀) (F : Fr h₀ L s.heap m) (X : (Mine.hd.heap_39 w.params).In h₀) (T : Top Mine.hd.view_39 (looseW Mine.hd.view_39 []) mean mg mb h₀) (hk : cs.kind = .function)
    (l : Addr) (vs : List Value) (ws : List Int) (t2 : Tok) (n : Nat) (d : Int) (N : News h₀ L s.heap ((l, listOf vs.toArray n) :: news)) (hi : IntsAre vs ws) (hws : ws.length ≤ 4) (hdd : d = 2 ∨ d = 4 ∨ d = 8) (hd : dp + 4 < recursionLimit) (hu : un + 40 < cLine)
    (ret : ∀ (us : List Value) (c : Addr) (n : Nat) (h' : Heap) (tk' : Nat), IntsAre us (carry d ws) → Fr h₀ L h' m → News h₀ L h' ((c, listOf us.toArray n) :: news) → Q (.ref c) { s with heap := h', toks := tk' }) :
    wpAny (model PySem.Challenge.rw_to0002_01.row.prog w) (ktrTop dp un gd cn cs L a ccd cl outer) (call (.ref 59) [.ref l, .int d t2]) Q E s := by
  have hw0 : 2 ≤ d := by omega
  have hw1 : d ≤ 8 := by omega
  w_top off
  revert X; k_fill; intro X
  refine wpAny_call ?_
  walk_at "my enterC"
  repeat ((fail_if_success (with_reducible show wpAny _ _ (exec (Stmt.For _ _ _ _ _) _) _ _ _)); (first | (k_unfold; (try dsimp only)) | walk1))
  rename_i g L1 h1 tk1 FG B1 X1 T1 off ll o3 o2 d1 d2 h2 o1 F2 N2 dd
  try k_fold
  with_unfolding_all refine' For_invVF F2 ?k1 ?k2 ?_
  case k1 => exact rfl
  case k2 => exact rfl
  walk1
  have F3 : Fr g L1 h2 (fun y => if y = Str.ofString "_" then none else if y = Str.ofString "weights" then some (.ref l) else none) := by
    have e : (fun y => if y = Str.ofString "_" then none else if y = Str.ofString "weights" then some (Value.ref l) else none) = fun y => if y = Str.ofString "weights" then some (Value.ref l) else none := by
      funext y
      by_cases hy : y = Str.ofString "_"
      · subst hy; rfl
      · simp only [if_neg hy]
    rw [e]; exact F2
  clear F2
  have N3 : News g L1 h2 ((l, listOf vs.toArray n) :: (L1 + 1 + 1, o1) :: (L1 + 1, o2) :: (l, listOf vs.toArray n) :: news) := fun p hp => N2 p (by
    rcases List.mem_cons.mp hp with rfl | hp
    · exact List.Mem.tail _ (List.Mem.tail _ (List.Mem.head _))
    · exact hp)
  clear N2
  with_unfolding_all refine iter_listUnr (by rfl) F3 N3 (by kcf_m) rfl rfl ?_
  intro I hI
  have hI1 := ltN (hI _ (List.Mem.head _))
  have hI2 := ltN (hI _ (List.Mem.tail _ (List.Mem.head _)))
  dsimp only at hI1 hI2
  refine list_inv (fun r m' n' => ∃ (v : Option Value) (sp : Addr) (k : Nat) (us : List Value) (xs : List Int) (o : Obj), (m' = fun y => if y = Str.ofString "_" then v else if y = Str.ofString "weights" then some (Value.ref l) else none) ∧ n' = (sp, listOf us.toArray k) :: (L1 + 1 + 1, o) :: (L1 + 1, o2) :: (l, listOf vs.toArray n) :: news ∧ o.data = .cell (some (.ref sp)) ∧ IntsAre us xs ∧ r.length ≤ ws.length ∧ xs.length + 7 * r.length ≤ 8 * ws.length ∧ xs = iter (ws.length - r.length) (spreadF d) ws ∧ @Ne Nat sp (L1 + 1 + 1) ∧ @Ne Nat sp (L1 + 1) ∧ @Ne Nat sp I) ?_ ?_ _ _ _ ?_
  · rintro v r m' n' it h tk ⟨v', sp, k, us, xs, o, rfl, rfl, ho, hus, hr, hxl, hxs, hs1, hs2, hs3⟩ hit F4 N4
    rw [ifif] at F4
    have hIn : ∀ p ∈ news, p.1 < I := fun p hp => hI p (List.Mem.tail _ (List.Mem.tail _ (List.Mem.tail _ (List.Mem.tail _ hp))))
    clear hI F3 N3
    have hx32 : xs.length ≤ 32 := by omega
    try k_fold
    k_steps
    rename_i hI8 hL8 D hA tkA F5 N5 oD hB oB F6 N6 dB
    refine UnrEnd.intro F6 N6 ((D, listOf ys.toArray ys.length) :: (L1 + 1 + 1, oB) :: (L1 + 1, o2) :: (l, listOf vs.toArray n) :: news) ?_ ?_ ⟨by kcf_m, some v, D, ys.length, ys, spreadF d xs, oB, rfl, rfl, dB, ?_, ?_, ?_, ?_, ?_, ?_, ?_⟩
    · kcf_all
    · intro p hp
      simp only [List.mem_cons] at hp
      rcases hp with rfl | rfl | rfl | rfl | hp
      · exact Ne.symm oD.1
      · exact Nat.ne_of_lt hI2
      · exact Nat.ne_of_lt (Nat.lt_of_succ_lt hI2)
      · exact Nat.ne_of_lt hI1
      · exact Nat.ne_of_lt (hIn p hp)
    · refine Eq.mp (congrArg (IntsAre ys) ?_) hI8
      unfold spreadF
      rw [Int.sub_zero]
      refine List.map_congr_left fun k hk => ?_
      rw [if_pos (by simp; omega)]
      exact win_eq d k xs
    · exact Nat.le_of_succ_le hr
    · unfold spreadF; simp only [List.length_map, rangeKs_length, List.length_cons] at hxl ⊢; omega
    · rw [hxs]
      have e : ws.length - r.length = (ws.length - (v :: r).length) + 1 := by simp only [List.length_cons] at hr ⊢; omega
      rw [e]; rfl
    · exact Ne.symm oD.2.2.1
    · exact Ne.symm oD.2.2.2.1
    · exact Ne.symm oD.1
  · rintro m' n' h tk ⟨v', sp, k, us, xs, o, rfl, rfl, ho, hus, hr, hxl, hxs, hs1, hs2, hs3⟩ F4 N4
    have hx32 : xs.length ≤ 32 := by simp only [List.length_nil] at hxl; omega
    clear hI F3 N3
    k_unmd
    dsimp only [qk]
    repeat ((fail_if_success (with_reducible show wpAny _ _ (pyIter (Value.ref _)) _ _ _)); (first | (k_unfold; (try dsimp only)) | walk1))
    rename_i l0 hC FC NC lC D hD FD ND iD n1 sz1 e1 e2 e3 lD hE FE NE hG tk5 t5 u5 v5 rng FG2 NG kG
    clear kG FE NE FD ND FC NC
    rw [List.flatten_replicate_singleton, List.flatten_replicate_singleton, Int.toNat_natCast] at iD
    rw [List.flatten_replicate_singleton, Int.toNat_natCast] at NG
    have FG3 := fr_to (m' := fun y => if y = Str.ofString "turns" then none else if y = Str.ofString "symbol" then none else if y = Str.ofString "y" then none else if y = Str.ofString "carried" then some (.ref D) else if y = Str.ofString "_" then v' else if y = Str.ofString "weights" then some (.ref l) else none) FG2 (fun y => by
      by_cases a1 : y = Str.ofString "turns"
      · subst a1; rfl
      by_cases a2 : y = Str.ofString "symbol"
      · subst a2; rfl
      by_cases a3 : y = Str.ofString "y"
      · subst a3; rfl
      simp only [if_neg a1, if_neg a2, if_neg a3])
    clear FG2
    have NG3 : News g L1 hG ((D, listOf (List.replicate ws.length (Value.int 0 _)).toArray 0) :: (sp, listOf us.toArray k) :: (L1 + 1 + 1, o) :: (L1 + 1, o2) :: (l, listOf vs.toArray n) :: news) := cb_drop NG (by kcf_all)
    clear NG
    refine iter_rangeUnr (n := xs.length) (by rfl) rng (small_one (by omega) (by omega) (by omega) (by omega)) (by rw [rangeSize_nat]; omega) FG3 NG3 ?_
    intro I2 hJ
    have hJn : ∀ p ∈ news, p.1 < I2 := fun p hp => hJ p (by kcf_m)
    replace hJ := allLt_of hJ
    simp only [AllLt] at hJ
    have hDD : D ≠ sp ∧ D ≠ L1 + 1 + 1 ∧ D ≠ L1 + 1 ∧ D ≠ l := ⟨Nat.ne_of_gt lD.2.1, Nat.ne_of_gt lD.2.2.1, Nat.ne_of_gt lD.2.2.2.1, Nat.ne_of_gt lD.2.2.2.2.1⟩
    have hDn : ∀ p ∈ news, p.1 ≠ D := fun p hp => Nat.ne_of_lt (allLt_mem lD.2.2.2.2.2 p hp)
    refine range_inv (fun i m' n' => ∃ (x1 x2 x3 : Option Value) (kc : Nat) (cs : List Value) (zs : List Int), (m' = fun y => if y = Str.ofString "turns" then x1 else if y = Str.ofString "symbol" then x2 else if y = Str.ofString "y" then x3 else if y = Str.ofString "carried" then some (.ref D) else if y = Str.ofString "_" then v' else if y = Str.ofString "weights" then some (.ref l) else none) ∧ n' = (D, listOf cs.toArray kc) :: (sp, listOf us.toArray k) :: (L1 + 1 + 1, o) :: (L1 + 1, o2) :: (l, listOf vs.toArray n) :: news ∧ IntsAre cs zs ∧ zs = carF d xs ws.length i) ?_ ?_ _ _ _ _ (by omega) ⟨none, none, none, 0, _, _, rfl, rfl, iD, rfl⟩
    · rintro i m' n' t9 h9 tk9 it hin ⟨x1, x2, x3, kc, cs, zs, rfl, rfl, hcs, hzs⟩ hit F9 N9
      rw [reorder, Int.zero_add] at F9
      clear FG3 NG3
      try k_fold
      repeat ((fail_if_success (with_reducible show wpAny _ _ (exec (Stmt.While _ _ _ _) _) _ _ _)); (first | (k_unfold; (try dsimp only)) | walk1))
      rename_i D9 hT lT hU FU NU hV hW FW NW
      clear FU NU
      rw [reorder2] at FW
      refine While_inv (fun q m' n' => ∃ (sy tu : Int) (ta tb : Tok), q = sy.toNat ∧ (m' = fun y => if y = Str.ofString "symbol" then some (.int sy ta) else if y = Str.ofString "turns" then some (.int tu tb) else if y = Str.ofString "y" then some (.int (i : Int) t9) else if y = Str.ofString "carried" then some (.ref D) else if y = Str.ofString "_" then v' else if y = Str.ofString "weights" then some (.ref l) else none) ∧ n' = (I2, it) :: (D, listOf cs.toArray kc) :: (sp, listOf us.toArray k) :: (L1 + 1 + 1, o) :: (L1 + 1, o2) :: (l, listOf vs.toArray n) :: news ∧ 0 ≤ sy ∧ 0 ≤ tu ∧ sy + 256 * tu = Int.fdiv ((i : Int) * 256) d) FW (news := (I2, it) :: (D, listOf cs.toArray kc) :: (sp, listOf us.toArray k) :: (L1 + 1 + 1, o) :: (L1 + 1, o2) :: (l, listOf vs.toArray n) :: news) (cb_drop NW (fun p hp => List.Mem.tail _ hp)) ⟨_, _, _, _, rfl, rfl, rfl, ?_, by omega, by omega⟩ ?_
      · exact Int.fdiv_nonneg (by omega) (by omega)
      · rintro q m' n' h6 tk6 F6 N6 ⟨sy, tu, ta, tb, rfl, rfl, rfl, hy0, ht0, hyt⟩
        clear FW NW
        repeat ((fail_if_success (with_reducible show @ite _ _ _ _ _)); (first | (k_unfold; (try dsimp only)) | walk1))
        rename_i hY tkY FY NY
        by_cases hc : sy ≥ 256
        · refine ite_pos (decide_eq_true hc) ?_
          try k_fold
          k_steps
          rename Fr g L1 _ _ => Fz
          rename News g L1 _ _ => Nz
          rw [reorder3] at Fz
          exact WhileStep.intro (n' := (sy - 256).toNat) (news₂ := (I2, it) :: (D, listOf cs.toArray kc) :: (sp, listOf us.toArray k) :: (L1 + 1 + 1, o) :: (L1 + 1, o2) :: (l, listOf vs.toArray n) :: news) Fz (cb_drop Nz (by kcf_all)) (by omega) ⟨sy - 256, tu + 1, _, _, rfl, rfl, rfl, by omega, by omega, by omega⟩
        · refine ite_neg (by rw [decide_eq_false hc]; exact Bool.false_ne_true) ?_
          obtain rfl : sy = Int.fdiv ((i : Int) * 256) d % 256 := by omega
          obtain ⟨r0, g0, b0, p1, p2, p3, p4, p5, p6, p7⟩ := paint_ok hdd (idx_lt hdd hws hin hxs)
          have hi0 : 0 ≤ (i : Int) := Int.natCast_nonneg i
          have hi1 : (i : Int) < xs.length := Int.ofNat_lt.mpr hin
          have hi2 : (i : Int) < 2 ^ 63 := by omega
          have hzl : zs.length = ws.length := by rw [hzs]; exact carF_len ..
          have hte := turn_eq hdd i hyt
          have ht1 : tu < zs.length := by
            have e := len_all hdd hxs
            rw [hzl, hte]
            exact turn_lt hdd hin e
          have ht2 : tu < 2 ^ 63 := by rw [hzl] at ht1; omega
          try k_fold
          k_steps
          rename Fr g L1 _ _ => Fz
          rename News g L1 _ _ => Nz
          have Ny : News g L1 _ ((I2, it) :: (D, listOf cs.toArray kc) :: (sp, listOf us.toArray k) :: (L1 + 1 + 1, o) :: (L1 + 1, o2) :: (l, listOf vs.toArray n) :: news) := cb_drop Nz (by kcf_all)
          clear Nz
          refine ksa_set Fz Ny (Upd.tail (Nat.ne_of_gt hJ.1) (Upd.head (fun p hp => ?_))) hcs ht0 ht1 ht2 ?_
          · simp only [List.mem_cons] at hp
            rcases hp with rfl | rfl | rfl | rfl | hp
            · exact Ne.symm hDD.1
            · exact Ne.symm hDD.2.1
            · exact Ne.symm hDD.2.2.1
            · exact Ne.symm hDD.2.2.2
            · exact hDn p hp
          clear Fz Ny
          intro hz Fz Nz hcz _ _
          k_steps
          refine UnrEnd.intro (fr_to Fz (m' := fun y => if y = Str.ofString "turns" then some (.int tu tb) else if y = Str.ofString "symbol" then some (.int (Int.fdiv ((i : Int) * 256) d % 256) ta) else if y = Str.ofString "y" then some (.int (i : Int) t9) else if y = Str.ofString "carried" then some (.ref D) else if y = Str.ofString "_" then v' else if y = Str.ofString "weights" then some (.ref l) else none) (fun y => ?_)) Nz ((D, listOf _ kc) :: (sp, listOf us.toArray k) :: (L1 + 1 + 1, o) :: (L1 + 1, o2) :: (l, listOf vs.toArray n) :: news) (fun p hp => hp) (fun p hp => ?_) ⟨_, _, _, kc, _, _, rfl, rfl, hcz, ?_⟩
          · by_cases a1 : y = Str.ofString "turns"
            · subst a1; rfl
            by_cases a2 : y = Str.ofString "symbol"
            · subst a2; rfl
            simp only [if_neg a1, if_neg a2]
          · simp only [List.mem_cons] at hp
            rcases hp with rfl | rfl | rfl | rfl | rfl | hp
            · exact Nat.ne_of_lt hJ.1
            · exact Nat.ne_of_lt hJ.2.1
            · exact Nat.ne_of_lt hJ.2.2.1
            · exact Nat.ne_of_lt hJ.2.2.2.1
            · exact Nat.ne_of_lt hJ.2.2.2.2.1
            · exact Nat.ne_of_lt (hJn p hp)
          · rw [hzs, hte]; rfl
    · rintro m' n' h tk ⟨x1, x2, x3, kc, cs, zs, rfl, rfl, hcs, hzs⟩ F9 N9
      clear FG3 NG3
      k_unmd
      dsimp only [qk]
      k_steps
      rename Fr h₀ L _ _ => Fz
      rename News h₀ L _ _ => Nz
      refine ret _ _ _ _ _ ?_ Fz (cb_drop Nz (by kcf_all))
      have e : zs = carry d ws := by
        rw [hzs, hxs]; simp only [List.length_nil, Nat.sub_zero]; rfl
      rw [← e]; exact hcs
  · exact ⟨_, l, n, vs, ws, o1, rfl, rfl, dd, hi, by rw [hi.length]; exact Nat.le_refl _, by rw [hi.length]; omega, by rw [hi.length, Nat.sub_self]; rfl, by omega, by omega, by omega⟩
end Mine
end
section
open PySem PySem.W PyProof.Rows PySem.Calls PyProof.Rows.LCg
set_option maxRecDepth 100000
namespace Mine
section
variable {M : Model} {A : Around} {E : Value → Shared → Prop} {s : Shared}
theorem new_envX {scope : Scope} {globals : Addr} {cl : List (Str × Addr)} {qual : Str} {env : Env} {Q : Env → Shared → Prop}
    (hQ : Q { scope := scope, locals := s.heap.objs.size, globals := globals, cells := cellsFrom (s.heap.objs.size + 1) scope.names cl, qual := qual, func := none, code := env.code, frame := env.frame, builtins := env.builtins } { s with heap := pushCells (s.heap.push { cls := .type "dict", data := .dict #[] }) scope.names }) :
    wpAny M A (newFunctionEnv scope globals cl [] qual none .none (some env)) Q E s := by
  simp only [newFunctionEnv, Option.isSome_some, if_true]
  refine wpAny_bind (wpAny_alloc ?_)
  refine wpAny_bind (wpAny_layCells _ (fun name kind cells => by cases hkc : kind == NameKind.cell <;> simp) _ _ _ _ ?_)
  rw [show ({ s with heap := s.heap.push { cls := .type "dict", data := .dict #[] } } : Shared).heap.objs.size = s.heap.objs.size + 1 from Heap.size_push ..]
  refine wpAny_bind ?_
  rw [List.forIn_nil]
  exact wpAny_pure (wpAny_pure hQ)
end
theorem off1_of {D : Addr} : ∀ {l : List (Addr × Obj)}, (∀ p ∈ l, p.1 ≠ D) → Off1 D l
  | [], _ => trivial
  | _ :: _, h => ⟨h _ List.mem_cons_self, off1_of fun p hp => h p (List.mem_cons_of_mem _ hp)⟩
theorem range_map_succ {g : Nat → Int} (i : Nat) : (List.range (i + 1)).map g = (List.range i).map g ++ [g i] := by
  rw [List.range_succ, List.map_append]; rfl
section
variable {prog : Program} {w : World} {A : Around} {E : Value → Shared → Prop} {s : Shared} {h₀ : Heap} {L : Addr} {m : Str → Option Value} {env : Env}
def TurnX (prog : Program) (w : World) (A : Around) (h₀ : Heap) (L : Addr) (m : Str → Option Value) (env : Env) (elt : Expr) (x : Str) (scope : Scope) (cl : List (Str × Addr)) (s : Shared) (n : Nat) (P : Nat → Value → Prop) (g : Nat → Int) (news : List (Addr × Obj)) : Prop :=
  ∀ i v I oI C oC D X oX m₂ ys h tk (E' : Value → Shared → Prop), i < n → P i v → NsObj oC m₂ → oX.data = .cell (some v) → Fr h₀ L h m → News h₀ L h ((I, oI) :: (C, oC) :: (D, lst ys) :: (X, oX) :: news) → Off3 I C D ((X, oX) :: news) → ((@Ne Nat I C) ∧ (@Ne Nat I D) ∧ (@Ne Nat C D)) → Off1 X news →
    wpAny (model prog w) A (eval elt (compEnvC scope ((x, X) :: cl) C env)) (CompEnd h₀ L m { s with heap := h, toks := tk } I oI C oC D (lst ys) (fun _ => True) (fun y news' => KCfEl ((X, oX) :: news) (g i) y news')) E' { s with heap := h, toks := tk }
set_option maxHeartbeats 1000000 in
theorem blockX {elt iter : Expr} {x : Str} {px : Pos} {scope : Scope} {cl : List (Str × Addr)} {pos : Pos} {s₂ : Shared} {I : Addr} {fp : List Addr} {n : Nat} {P : Nat → Value → Prop} {St : Nat → Heap → Prop} {news : List (Addr × Obj)} {g : Nat → Int}
    {RR : Value → Addr → Result → Shared → Prop}
    (W : Walks prog w A I fp [I] n P St) (hsz : n ≤ sizeLine) (hIo : ∀ i h, St i h → ∃ o, h.get? I = some o)
    (hSt : ∀ i h h' o, St i h → h.get? I = some o → h'.get? I = some o → (∀ b o, h₀.get? b = some o → h'.get? b = some o) → News h₀ L h' news → St i h')
    (hkind : scope.kind = .function) (hcells : ∀ k, cellsFrom k scope.names cl = (x, k) :: cl) (hpush : ∀ h : Heap, pushCells h scope.names = h.push { cls := .type "cell", data := .cell none })
    (hx : ∀ X C, (compEnvC scope ((x, X) :: cl) C env).kindOf x = some .cell) (hst : St 0 s₂.heap) (hfp : ∀ b ∈ fp, b < s₂.heap.objs.size)
    (F : Fr h₀ L s₂.heap m) (N : News h₀ L s₂.heap news) (hIL : L ≠ I) (hI₀ : h₀.get? I = none) (off : ∀ p ∈ news, p.1 ≠ I)
    (turn : TurnX prog w A h₀ L m env elt x scope cl s₂ n P g news)
    (hRR : ∀ D C X oX h tk m' ys, Fr h₀ L h m → News h₀ L h ((D, lst ys) :: (X, oX) :: news) → Off1 D news → h.Ns C m' → h₀.get? C = none → C ≠ L → C ≠ D → (∀ p ∈ (X, oX) :: news, p.1 ≠ C) → IntsAre ys ((List.range n).map g) → RR (.ref D) C (.ok .next) { s₂ with heap := h, toks := tk }) :
    wpAny (model prog w) A (newList []) (fun acc s₃ => wpAny (model prog w) A (newFunctionEnv scope env.globals cl [] env.qual none .none (some env)) (fun cenv s₄ =>
      codeAny (model prog w) A (.compStart (.ListComp elt [⟨.Name x px, iter, [], 0⟩] scope pos) 0 (.ref I) acc { cenv with scope := relabel scope env }) (RR acc cenv.locals) s₄) E s₃) E s₂ := by
  refine wpAny_newObj_type (new_envX ?_)
  dsimp only
  generalize hH2 : s₂.heap.push { cls := .type "list", dict := none, data := .seq ([] : List Value).toArray } = H2
  have hC : H2.objs.size = s₂.heap.objs.size + 1 := by rw [← hH2, Heap.size_push]
  rw [hcells, hpush]
  generalize hH3 : (H2.push { cls := .type "dict", data := .dict #[] }).push { cls := .type "cell", data := .cell none } = H3
  have hDC : s₂.heap.objs.size ≠ H2.objs.size := by rw [hC]; exact Nat.ne_of_lt (Nat.lt_succ_self _)
  have hXC : H2.objs.size + 1 ≠ H2.objs.size := Nat.succ_ne_self _
  have hXD : H2.objs.size + 1 ≠ s₂.heap.objs.size := by rw [hC]; exact Nat.ne_of_gt (Nat.lt_succ_of_lt (Nat.lt_succ_self _))
  have below : ∀ b, b < s₂.heap.objs.size → b ≠ H2.objs.size ∧ b ≠ s₂.heap.objs.size ∧ b ≠ H2.objs.size + 1 := fun b hb => ⟨by rw [hC]; exact Nat.ne_of_lt (Nat.lt_succ_of_lt hb), Nat.ne_of_lt hb, by rw [hC]; exact Nat.ne_of_lt (Nat.lt_succ_of_lt (Nat.lt_succ_of_lt hb))⟩
  have hDf : s₂.heap.objs.size ∉ fp := fun hm => Nat.lt_irrefl _ (hfp _ hm)
  have hCf : H2.objs.size ∉ fp := fun hm => (below _ (hfp _ hm)).1 rfl
  have hXf : H2.objs.size + 1 ∉ fp := fun hm => (below _ (hfp _ hm)).2.2 rfl
  have hIf : I ∈ fp := W.sub I (List.mem_singleton.mpr rfl)
  have hIlt : I < s₂.heap.objs.size := hfp I hIf
  have up3 : ∀ b o, H2.get? b = some o → H3.get? b = some o := fun b o e => hH3 ▸ Heap.get?_push_of_some _ (Heap.get?_push_of_some _ e)
  have old : ∀ b o, s₂.heap.get? b = some o → H3.get? b = some o := fun b o e => up3 b o (hH2 ▸ Heap.get?_push_of_some _ e)
  have hacc : H3.get? s₂.heap.objs.size = some (lst []) := up3 _ _ (hH2 ▸ Heap.get?_push_size _ rfl)
  have hCn : H3.Ns H2.objs.size (fun _ => none) := hH3 ▸ (Heap.Ns.new H2 (.type "dict")).keeps fun b o e => Heap.get?_push_of_some _ e
  have hXc : ∃ o, H3.get? (H2.objs.size + 1) = some o ∧ o.data = .cell none := ⟨_, by rw [← hH3, ← Heap.size_push H2 { cls := .type "dict", data := .dict #[] }]; exact Heap.get?_push_size _ rfl, rfl⟩
  have hst₁ : St 0 H3 := W.frame _ _ _ hst fun b _ o e => old b o e
  have fresh₀ : ∀ a, s₂.heap.objs.size ≤ a → h₀.get? a = none := fun a ha => by
    cases e : h₀.get? a with
    | none => rfl
    | some o' => exact absurd (Heap.lt_size (F.keep a o' e)) (Nat.not_lt.mpr ha)
  have hD₀ : h₀.get? s₂.heap.objs.size = none := fresh₀ _ (Nat.le_refl _)
  have hC₀ : h₀.get? H2.objs.size = none := fresh₀ _ (by rw [hC]; exact Nat.le_succ _)
  have hX₀ : h₀.get? (H2.objs.size + 1) = none := fresh₀ _ (by rw [hC]; exact Nat.le_succ_of_le (Nat.le_succ _))
  have hLlt : L < s₂.heap.objs.size := F.ns.lt
  have hDL : s₂.heap.objs.size ≠ L := Ne.symm (below L hLlt).2.1
  have hCL : H2.objs.size ≠ L := Ne.symm (below L hLlt).1
  have hXL : H2.objs.size + 1 ≠ L := Ne.symm (below L hLlt).2.2
  have hCI : I ≠ H2.objs.size := (below I hIlt).1
  have hDI : I ≠ s₂.heap.objs.size := (below I hIlt).2.1
  have hXI : I ≠ H2.objs.size + 1 := (below I hIlt).2.2
  have offN : ∀ p ∈ news, p.1 ≠ I ∧ p.1 ≠ H2.objs.size ∧ p.1 ≠ s₂.heap.objs.size ∧ p.1 ≠ H2.objs.size + 1 := fun p hp => ⟨off p hp, (below _ (Heap.lt_size (N p hp).1)).1, (below _ (Heap.lt_size (N p hp).1)).2.1, (below _ (Heap.lt_size (N p hp).1)).2.2⟩
  have offX : ∀ o : Obj, Off3 I H2.objs.size s₂.heap.objs.size ((H2.objs.size + 1, o) :: news) := fun o => ⟨⟨Ne.symm hXI, hXC, hXD⟩, Off3.of fun p hp => ⟨(offN p hp).1, (offN p hp).2.1, (offN p hp).2.2.1⟩⟩
  have off1X : Off1 (H2.objs.size + 1) news := off1_of fun p hp => (offN p hp).2.2.2
  have loop : ∀ s₃ : Shared, s₃ = { s₂ with heap := H3 } →
      codeAny (model prog w) A (.compLoop (.ListComp elt [⟨.Name x px, iter, [], 0⟩] scope pos) 0 (.ref I) (.ref s₂.heap.objs.size) (compEnvC scope ((x, H2.objs.size + 1) :: cl) H2.objs.size env))
        (RR (.ref s₂.heap.objs.size) H2.objs.size) s₃ := by
    rintro s₃ rfl
    refine codeAny_compLoop_tests
      (fun k s' => ∃ h' tk i ys m' oX v₀, s' = { s₂ with heap := h', toks := tk } ∧ i ≤ n ∧ k = n + 1 - i ∧ IntsAre ys ((List.range i).map g) ∧ St i h' ∧ Fr h₀ L h' m ∧ h'.Ns H2.objs.size m' ∧ oX.data = .cell v₀ ∧ News h₀ L h' ((s₂.heap.objs.size, lst ys) :: (H2.objs.size + 1, oX) :: news)) ?_ (n + 1)
      ⟨H3, s₂.toks, 0, [], _, hXc.choose, none, rfl, Nat.zero_le _, rfl, .nil, hst₁, F.keeps old, hCn, hXc.choose_spec.2, fun p hp => ?_⟩
    · rintro k s' ⟨h', tk, i, ys, m', oX, v₀, rfl, hi, rfl, hys, hst', F', hn', hoX, N'⟩
      have hyl : ys.length = i := by have := hys.length; simpa using this
      by_cases hlt : i < n
      · refine W.item i _ _ _ hlt hst' fun v h₂ tk₂ hPv hst₂ hk₂ => ?_
        have N₂ : News h₀ L h₂ ((s₂.heap.objs.size, lst ys) :: (H2.objs.size + 1, oX) :: news) := news_but N' hk₂ fun p hp => by
          rcases List.mem_cons.mp hp with rfl | hp
          · exact Ne.symm hDI
          · rcases List.mem_cons.mp hp with rfl | hp
            · exact Ne.symm hXI
            · exact (offN p hp).1
        refine wpAny_assign_Name (wpAny_storeName_cell (c := H2.objs.size + 1) hkind (hx _ _) (by simp [compEnvC]) ⟨oX, (N₂ _ (List.mem_cons_of_mem _ List.mem_cons_self)).1, hoX⟩ fun h₃ hX₃ hs₃ => ?_)
        refine wpAny_tests_nil ?_
        simp only [if_true]
        obtain ⟨oX₃, eX₃, dX₃⟩ := hX₃
        have hst₃ : St (i + 1) h₃ := W.frame _ _ _ hst₂ fun b hb o e => hs₃.extBut b o (fun q => hXf (by have q' : b = H2.objs.size + 1 := q; rw [← q']; exact hb)) e
        obtain ⟨oI, heI⟩ := hIo _ _ hst₃
        have hn₃ : h₃.Ns H2.objs.size m' := (hn'.at' fun o e => hk₂ _ o (by simpa using Ne.symm hCI) e).sameBut hs₃ (Ne.symm hXC)
        obtain ⟨oC, heC, hoC⟩ := ns_obj hn₃
        have F₃ : Fr h₀ L h₃ m := (fr_but F' hk₂ hIL hI₀).change hs₃ hXL hX₀
        have N₃ : News h₀ L h₃ ((I, oI) :: (H2.objs.size, oC) :: (s₂.heap.objs.size, lst ys) :: (H2.objs.size + 1, oX₃) :: news) := fun p hp => by
          rcases List.mem_cons.mp hp with rfl | hp
          · exact ⟨heI, Ne.symm hIL, hI₀⟩
          rcases List.mem_cons.mp hp with rfl | hp
          · exact ⟨heC, hCL, hC₀⟩
          rcases List.mem_cons.mp hp with rfl | hp
          · exact ⟨hs₃.extBut _ _ (Ne.symm hXD) (N₂ _ List.mem_cons_self).1, hDL, hD₀⟩
          rcases List.mem_cons.mp hp with rfl | hp
          · exact ⟨eX₃, hXL, hX₀⟩
          have z := N₂ p (List.mem_cons_of_mem _ (List.mem_cons_of_mem _ hp))
          exact ⟨hs₃.extBut _ _ (offN p hp).2.2.2 z.1, z.2⟩
        refine wpAny_mono (turn i v I oI H2.objs.size oC s₂.heap.objs.size (H2.objs.size + 1) oX₃ _ ys h₃ _ _ hlt hPv hoC dX₃ F₃ N₃ (offX _) ⟨hCI, hDI, Ne.symm hDC⟩ off1X) (fun y s₄ h₄ => ?_) fun _ _ e => e
        obtain ⟨h₄, tk₄, news₄, rfl, F₄, N₄, off₄, hS₄, rfl, t₄, rfl⟩ := h₄
        have zI := (N₄ (I, oI) List.mem_cons_self).1
        have zC := (N₄ (H2.objs.size, oC) (List.mem_cons_of_mem _ List.mem_cons_self)).1
        have zD := (N₄ (s₂.heap.objs.size, lst ys) (List.mem_cons_of_mem _ (List.mem_cons_of_mem _ List.mem_cons_self))).1
        have N₄' : News h₀ L h₄ ((H2.objs.size + 1, oX₃) :: news) := fun p hp => N₄ p (List.mem_cons_of_mem _ (List.mem_cons_of_mem _ (List.mem_cons_of_mem _ hp)))
        have hst₄ : St (i + 1) h₄ := hSt _ _ _ _ hst₃ heI zI F₄.keep fun p hp => N₄' p (List.mem_cons_of_mem _ hp)
        refine append_at (hsz := by show ys.toArray.size ≤ sizeLine; rw [List.size_toArray, hyl]; exact Nat.le_trans hi hsz) zD fun h₅ hs₅ hD₅ => ?_
        refine ⟨n + 1 - (i + 1), by omega, h₅, tk₄, i + 1, ys ++ [Value.int (g i) t₄], m', oX₃, some v, rfl, hlt, rfl, ?_, W.frame _ _ _ hst₄ fun b hb o e => hs₅.extBut b o (fun q => hDf (q ▸ hb)) e, F₄.change hs₅ hDL hD₀,
          (hoC.ns zC).sameBut hs₅ (Ne.symm hDC), dX₃, fun p hp => ?_⟩
        · rw [range_map_succ]; exact IntsAre.append hys (.cons _ _ .nil)
        · rcases List.mem_cons.mp hp with rfl | hp
          · exact ⟨hD₅.trans (congrArg some (lst_snoc ys (Value.int (g i) t₄))), hDL, hD₀⟩
          · refine ⟨hs₅.extBut _ _ ?_ (N₄' p hp).1, (N₄' p hp).2⟩
            rcases List.mem_cons.mp hp with rfl | hp
            · exact hXD
            · exact (offN p hp).2.2.1
      · obtain rfl : i = n := Nat.le_antisymm hi (Nat.not_lt.mp hlt)
        refine W.done _ _ _ hst' fun h₂ tk₂ hk₂ => ?_
        refine hRR _ _ _ oX h₂ tk₂ _ ys (fr_but F' hk₂ hIL hI₀) (news_but N' hk₂ fun p hp => ?_) (off1_of fun p hp => (offN p hp).2.2.1) (hn'.at' fun o e => hk₂ _ o (by simpa using Ne.symm hCI) e) hC₀ hCL (Ne.symm hDC) (fun p hp => ?_) hys
        · rcases List.mem_cons.mp hp with rfl | hp
          · exact Ne.symm hDI
          · rcases List.mem_cons.mp hp with rfl | hp
            · exact Ne.symm hXI
            · exact (offN p hp).1
        · rcases List.mem_cons.mp hp with rfl | hp
          · exact hXC
          · exact (offN p hp).2.1
    · rcases List.mem_cons.mp hp with rfl | hp
      · exact ⟨hacc, hDL, hD₀⟩
      · rcases List.mem_cons.mp hp with rfl | hp
        · exact ⟨hXc.choose_spec.1, hXL, hX₀⟩
        · exact ⟨old _ _ (N p hp).1, (N p hp).2⟩
  exact codeAny_compStart_list (loop _ rfl) (W.self 0 _ _ _ hst₁ (loop _ rfl))

def FinX (h₀ : Heap) (L : Addr) (m : Str → Option Value) (s : Shared) (Q : Value → Shared → Prop) (ns : List Int) (news : List (Addr × Obj)) : Prop :=
  ∀ D ys h tk, IntsAre ys ns → Fr h₀ L h m → News h₀ L h ((D, listOf ys.toArray ys.length) :: news) → Off1 D news → Q (.ref D) { s with heap := h, toks := tk }
def SrcX (prog : Program) (w : World) (A : Around) (h₀ : Heap) (L : Addr) (m : Str → Option Value) (env : Env) (elt : Expr) (x : Str) (scope : Scope) (cl : List (Str × Addr)) (Q : Value → Shared → Prop) (xv : Value) (s₁ : Shared) : Prop :=
  (∃ ax its news g, xv = .ref ax ∧ A.handled = none ∧ Fr h₀ L s₁.heap m ∧ News h₀ L s₁.heap news ∧ SrcAt h₀ ax its news ∧ its.size ≤ sizeLine ∧
    ∀ s₂ : Shared, (∃ h, s₂ = { s₁ with heap := h }) → TurnX prog w A h₀ L m env elt x scope cl s₂ its.size (fun i v => its[i]? = some v) g news ∧ FinX h₀ L m s₂ Q ((List.range its.size).map g) news) ∨
  (∃ r a b t u v n news g, xv = .ref r ∧ A.handled = none ∧ Fr h₀ L s₁.heap m ∧ News h₀ L s₁.heap news ∧ IsRange s₁.heap r a b 1 t u v ∧ Builtin.Range.small a b 1 = true ∧ Builtin.Range.rangeSize a b 1 = ((n : Nat) : Int) ∧ n ≤ sizeLine ∧
    ∀ s₂ : Shared, (∃ h, s₂ = { s₁ with heap := h }) → TurnX prog w A h₀ L m env elt x scope cl s₂ n (fun i v => ∃ t, v = .int (a + (i : Int)) t) g news ∧ FinX h₀ L m s₂ Q ((List.range n).map g) news)
theorem ListComp_X {elt iter : Expr} {x : Str} {px : Pos} {scope : Scope} {cl : List (Str × Addr)} {pos : Pos} {Q : Value → Shared → Prop} (F₀ : Fr h₀ L s.heap m)
    (hclos : closureFor scope env = pure cl) (hkind : scope.kind = .function)
    (hnames : ∀ y ∈ scope.names, y.2 = .local → scope.names.lookup y.1 = some .local)
    (hcells : ∀ k, cellsFrom k scope.names cl = (x, k) :: cl) (hpush : ∀ h : Heap, pushCells h scope.names = h.push { cls := .type "cell", data := .cell none })
    (hx : ∀ X C, (compEnvC scope ((x, X) :: cl) C env).kindOf x = some .cell)
    (h : wpAny (model prog w) A (eval iter env) (SrcX prog w A h₀ L m env elt x scope cl Q) E s)
    (hs : ∀ x, foldedSetIterable iter env x = pure x := by intro _; rfl) :
    wpAny (model prog w) A (eval (.ListComp elt [⟨.Name x px, iter, [], 0⟩] scope pos) env) Q E s := by
  rw [eval_ListComp]
  refine wpAny_comprehension_free (use := none) rfl hs hclos hkind hnames (wpAny_mono h (fun xv s₁ h₁ => ?_) fun _ _ e => e)
  rcases h₁ with ⟨ax, its, news, g, rfl, hh, F, N, S, hsz, R⟩ | ⟨r, a, b, t, u, v, n, news, g, rfl, hh, F, N, hr, hsm, hn, hsz, R⟩
  · have hl := S.list F.keep N
    have hlt : ax < s₁.heap.objs.size := by obtain ⟨_, e, _⟩ := hl; exact Heap.lt_size e
    refine wpAny_pyIter_list hl ?_
    have up : ∀ b o, s₁.heap.get? b = some o → (s₁.heap.push { cls := .type "list_iterator", data := .fields #[.ref ax, .int 0 0] }).get? b = some o := fun b o e => Heap.get?_push_of_some _ e
    obtain ⟨turn, fin⟩ := R { s₁ with heap := s₁.heap.push { cls := .type "list_iterator", data := .fields #[.ref ax, .int 0 0] } } ⟨_, rfl⟩
    refine blockX (Walks.list hh s₁.heap.objs.size ax (Nat.ne_of_lt hlt) its) hsz (fun i h st => by obtain ⟨o, e, _⟩ := st.1; exact ⟨o, e⟩) (fun i h h' o st e e' k N' => list_st i h h' o news st e e' k N' S) hkind hcells hpush hx ⟨⟨_, Heap.get?_push_size _ rfl, rfl, rfl⟩, hl.push _⟩ (fun b hb => ?_)
      (F.keeps up) (N.grown up) (Nat.ne_of_lt F.ns.lt) (next_is_new F) (fun p hp => Nat.ne_of_lt (Heap.lt_size (N p hp).1)) turn ?_
    · show b < (s₁.heap.push _).objs.size
      rw [Heap.size_push]
      rcases List.mem_cons.mp hb with rfl | hb
      · exact Nat.lt_succ_self _
      · rw [List.mem_singleton.mp hb]; exact Nat.lt_succ_of_lt hlt
    · intro D C X oX h tk m' ys F' N' o1 hn hC₀ hCL hCD offC hy
      refine ⟨m', hn, fun h'' hs'' => fin D ys h'' tk hy (F'.change hs'' hCL hC₀) (fun p hp => ?_) o1⟩
      have hp' : p ∈ (D, lst ys) :: (X, oX) :: news := by
        rcases List.mem_cons.mp hp with rfl | hp
        · exact List.mem_cons_self
        · exact List.mem_cons_of_mem _ (List.mem_cons_of_mem _ hp)
      refine ⟨hs''.extBut _ _ ?_ (N' p hp').1, (N' p hp').2⟩
      rcases List.mem_cons.mp hp with rfl | hp
      · exact Ne.symm hCD
      · exact offC p (List.mem_cons_of_mem _ hp)
  · refine wpAny_pyIter_range hr hsm ?_
    obtain ⟨turn, fin⟩ := R { s₁ with heap := s₁.heap.push _ } ⟨_, rfl⟩
    refine blockX (range_walks hh a n) hsz (fun i h st => ⟨_, st⟩) (fun i h h' o st e e' k N' => range_st i h h' o news st e e' k N' trivial) hkind hcells hpush hx (by show IsRangeIter _ _ _ _ _; rw [hn]; simpa using Heap.get?_push_size _ rfl) (fun b hb => ?_)
      (F.keeps fun _ _ e => Heap.get?_push_of_some _ e) (N.grown fun _ _ e => Heap.get?_push_of_some _ e) (Nat.ne_of_lt F.ns.lt) (next_is_new F) (fun p hp => Nat.ne_of_lt (Heap.lt_size (N p hp).1)) turn ?_
    · rw [List.mem_singleton.mp hb]
      show s₁.heap.objs.size < (s₁.heap.push _).objs.size
      rw [Heap.size_push]; exact Nat.lt_succ_self _
    · intro D C X oX h tk m' ys F' N' o1 hn hC₀ hCL hCD offC hy
      refine ⟨m', hn, fun h'' hs'' => fin D ys h'' tk hy (F'.change hs'' hCL hC₀) (fun p hp => ?_) o1⟩
      have hp' : p ∈ (D, lst ys) :: (X, oX) :: news := by
        rcases List.mem_cons.mp hp with rfl | hp
        · exact List.mem_cons_self
        · exact List.mem_cons_of_mem _ (List.mem_cons_of_mem _ hp)
      refine ⟨hs''.extBut _ _ ?_ (N' p hp').1, (N' p hp').2⟩
      rcases List.mem_cons.mp hp with rfl | hp
      · exact Ne.symm hCD
      · exact offC p (List.mem_cons_of_mem _ hp)
end
end Mine
end
section
open PySem PySem.W PyProof.Rows PySem.Calls
set_option maxRecDepth 100000
namespace Mine
local macro_rules | `(tactic| walk_at "my enterC") => `(tactic| (k_dflt (refine' code_defC ?k1 ?k2 ?k3 ?k4 ?k5 ?kA ?kF ?kK ?k6 ?k7 ?k8 ?k9 ?kB ?kD ?_ ?c2 ?c3 ?c4; (case kA => exact rfl); (case kF => exact rfl); (case kK => assumption); (case k1 => k_asm); (case k2 => k_asm); (case k3 => k_asm); (case k4 => k_asm); (case k5 => k_asm); (case k6 => k_is); (case k7 => k_is); (case k8 => ktr_room); (case k9 => exact BindsTo.of_eq rfl); (case kB => exact rfl); (case kD => decide +kernel); (case c2 => exact rfl); (case c3 => exact rfl); (case c4 => exact rfl); k_whole; intro g' L' h' tk' cells' FG' F' N' Y' B' X' T' l1; (have l2 := l1 _ (List.Mem.head _)); (replace l1 := off4 fun p hp => l1 p (List.Mem.tail _ hp)); (dsimp only at l2); (replace l2 := ltN l2); k_cells Y'; (try simp only [List.cons_append, List.nil_append] at N'); (try dsimp only); (try k_lift B'); (try k_fold))))
local macro_rules | `(tactic| k_mem) => `(tactic| kcf_m)
local macro_rules | `(tactic| walk_at "eval Name") => `(tactic| (k_here; (with_reducible show wpAny _ _ (eval (Expr.Name _ _) (compEnvC _ _ _ _)) _ _ _); k_dflt (refine kcf_cell (by k_asm) (by rfl) (by kcf_m) (by k_asm) ?_); (try dsimp only)))
local macro_rules | `(tactic| walk_at "eval ListComp") => `(tactic| (k_here; k_dflt (refine ListComp_X (F₀ := by k_asm) (by with_unfolding_all rfl) (by rfl) (by decide) (by intro _; rfl) (by intro _; rfl) (by intro _ _; rfl) ?_)))
theorem ix1 {k : Int} {n : Nat} (h : k < 0 + (n : Int)) : k < n := by omega
theorem ix2 {k : Int} {n : Nat} (h : k < 0 + (n : Int)) (hn : n ≤ 4) : k < 2 ^ 63 := by omega
theorem ix3 {k : Int} (h : k > 0) : 0 ≤ k - 1 := by omega
theorem ix4 {k : Int} {n : Nat} (h : k > 0) (h : k < 0 + (n : Int)) : k - 1 < n := by omega
theorem ix5 {k : Int} {n : Nat} (h : k < 0 + (n : Int)) (hn : n ≤ 4) : k - 1 < 2 ^ 63 := by omega
theorem ix6 {k : Int} (h : 0 ≤ k) : 0 ≤ k + 1 := by omega
theorem ix7 {k : Int} {n : Nat} (h : k < 0 + (n : Int)) (hn : n ≤ 4) : k + 1 ≤ 1000000 := by omega
theorem getD_bnd {ps : List Int} (h : ∀ p ∈ ps, -50 ≤ p ∧ p ≤ 49) (j : Nat) : -50 ≤ ps.getD j 0 ∧ ps.getD j 0 ≤ 49 := by
  rw [List.getD_eq_getElem?_getD]
  cases e : ps[j]? with
  | none => exact ⟨by decide, by decide⟩
  | some p => exact h p (List.mem_of_getElem? e)
local macro_rules | `(tactic| walk_at "binaryOp Mult int int") => `(tactic| (k_here; k_dflt ((refine mul_int ?_ ?mymu); (case mymu => (rename ∀ (_ : Nat) (_ : Int), IntMulOk _ _ => hM'; exact hM' _ _))); (try dsimp only)))
def iterW {α : Type} : Nat → (α → α) → α → α
  | 0, _, a => a
  | n + 1, f, a => f (iterW n f a)
def diffV (zs : List Int) (k : Int) : Int := zs.getD k.toNat 0 - (if k > 0 then zs.getD (k - 1).toNat 0 else 0)
def diffF (n : Nat) (zs : List Int) : List Int := (rangeKs 0 n).map (diffV zs)
theorem fr_toW {h₀ h' : Heap} {L : Addr} {m m' : Str → Option Value} (F : Fr h₀ L h' m) (e : ∀ y, m y = m' y) : Fr h₀ L h' m' := (funext e : m = m') ▸ F
theorem ififW {α : Type} {a : Str} {u v : α} {f : Str → α} : (fun y => if y = a then u else (if y = a then v else f y)) = fun y => if y = a then u else f y := by
  funext y
  by_cases h : y = a
  · simp only [if_pos h]
  · simp only [if_neg h]
def rowV (ps : List Int) (wide x : Int) : Int := ((rangeKs 0 ps.length).map (fun k => ps.getD k.toNat 0 * (wide * x) ^ (k + 1).toNat)).sum
local macro_rules | `(tactic| walk_at "binaryOp Pow int int") => `(tactic| (k_here; k_dflt ((with_reducible refine pow_int_small ?myp1 ?myp2 ?myp3 ?_); (case myp1 => exact ix6 (by assumption)); (case myp2 => exact ix7 (by assumption) (by assumption)); (case myp3 => assumption)); (try dsimp only)))
local macro_rules | `(tactic| walk_at "subscriptTail Name Name ref int") => `(tactic| (k_here; (with_reducible show wpAny _ _ (subscriptTail _ _ (Value.ref _) (Value.int _ _)) _ _ _); k_dflt (refine' ksa_sub ?myg1 ?myg2 ?myg3 ?myg4 ?myg5 ?myg6 ?_ ?myg7; (case myg1 => k_asm); (case myg2 => kcf_m); (case myg3 => with_reducible assumption); (case myg4 => first | assumption | exact ix3 (by assumption)); (case myg5 => first | assumption | exact ix1 (by assumption) | exact ix4 (by assumption) (by assumption)); (case myg6 => first | assumption | exact ix2 (by assumption) (by assumption) | exact ix5 (by assumption) (by assumption)); (case myg7 => with_unfolding_all rfl)); intro _))
local macro_rules | `(tactic| walk_at "subscriptTail Name BinOp ref int") => `(tactic| (k_here; (with_reducible show wpAny _ _ (subscriptTail _ _ (Value.ref _) (Value.int _ _)) _ _ _); k_dflt (refine' ksa_sub ?myk1 ?myk2 ?myk3 ?myk4 ?myk5 ?myk6 ?_ ?myk7; (case myk1 => k_asm); (case myk2 => kcf_m); (case myk3 => with_reducible assumption); (case myk4 => first | assumption | exact ix3 (by assumption)); (case myk5 => first | assumption | exact ix1 (by assumption) | exact ix4 (by assumption) (by assumption)); (case myk6 => first | assumption | exact ix2 (by assumption) (by assumption) | exact ix5 (by assumption) (by assumption)); (case myk7 => with_unfolding_all rfl)); intro _))
def weights (ps : List Int) (wide : Int) : List Int := iterW (ps.length + 1) (diffF ps.length) ((List.range ps.length).map (fun i : Nat => rowV ps wide (1 + (i : Int))))
set_option maxHeartbeats 800000 in
theorem wt_c {w : World} {mean : ExcName → Option Value} {mg mb : Str → Option Value} (dp un : Nat) (gd : Option (List Code)) (cn : Str) (cs : Scope) (a : Addr) (ccd : Value) (cl : List (Str × Addr)) (outer : List Env) (A₀ : Around) (base h₀ : Heap) (L : Addr) (m : Str → Option Value) (news : List (Addr × Obj)) (s : Shared) (Q E : Value → Shared → Prop)
    (B : Below A₀ base outer h₀) (F : Fr h₀ L s.heap m) (X : (Mine.hd.heap_39 w.params).In h₀) (T : Top Mine.hd.view_39 (looseW Mine.hd.view_39 []) mean mg mb h₀) (hk : cs.kind = .function)
    (l : Addr) (vs : List Value) (ps : List Int) (t2 : Tok) (n : Nat) (wide : Int) (N : News h₀ L s.heap ((l, listOf vs.toArray n) :: news)) (hi : IntsAre vs ps) (hps : ps.length ≤ 4) (hpb : ∀ p ∈ ps, -50 ≤ p ∧ p ≤ 49) (hw0 : 0 ≤ wide) (hw1 : wide ≤ 1000) (hd : dp + 4 < recursionLimit) (hu : un + 40 < cLine)
    (ret : ∀ (us : List Value) (c : Addr) (n : Nat) (h' : Heap) (tk' : Nat), IntsAre us (weights ps wide) → Fr h₀ L h' m → News h₀ L h' ((c, listOf us.toArray n) :: news) → Q (.ref c) { s with heap := h', toks := tk' }) :
    wpAny (model PySem.Challenge.rw_to0002_01.row.prog w) (ktrTop dp un gd cn cs L a ccd cl outer) (call (.ref 47) [.ref l, .int wide t2]) Q E s := by
  w_top off
  revert X; k_fill; intro X
  refine wpAny_call ?_
  walk_at "my enterC"
  k_steps
  rename_i g L1 h1 tk1 FG B1 X1 T1 off ll o1 o2 o3 o4 d1 d2 d3 d4 hW oW FW NW dW hH tkr tr ur vr hR hF hN hG
  clear hG
  have hpl : ps.length ≤ 4 := hps
  refine Or.inr ⟨_, _, _, _, _, _, ps.length, _, (fun i => rowV ps wide (1 + (i : Int))), rfl, rfl, hF, hN, hR, small_one (by omega) (by omega) (by omega) (by omega), ?_, ?_, ?_⟩
  · rw [rangeSize_nat]; omega
  · rw [PySem.sizeLine_eq]; omega
  rintro _ ⟨h9, rfl⟩
  refine ⟨?_, ?_⟩
  · intro i v I oI C oC D Xc oX m₂ ys h tk E' hi9 hv hC hX F2 N2 off2 ne2 off1
    obtain ⟨t9, rfl⟩ := hv
    simp only [LCg.Off3, LCg.Off1, and_true] at off2 off1
    clear hF hN
    have hb : (wide * (1 + (i : Int))).natAbs < 2 ^ 64 := by
      rw [Int.natAbs_mul]
      have h1 : wide.natAbs ≤ 1000 := by omega
      have h2 : (1 + (i : Int)).natAbs ≤ 5 := by omega
      exact Nat.lt_of_le_of_lt (Nat.mul_le_mul h1 h2) (by decide)
    have hM : ∀ (j : Nat) (b : Int), IntMulOk (ps.getD j 0) b := fun j b => IntMulOk.of_left (intBits_le_64 (by have := getD_bnd hpb j; omega) (by have := getD_bnd hpb j; omega))
    try k_fold
    k_steps
    exact kcf_el (by unfold rowV; rw [Int.sub_zero, Int.toNat_natCast]) rfl rfl
  · intro D ys h tk hys F2 N2 off1
    simp only [LCg.Off1] at off1
    clear hF hN
    try k_fold
    repeat ((fail_if_success (with_reducible show wpAny _ _ (pyIter (Value.ref _)) _ _ _)); (first | (k_unfold; (try dsimp only)) | walk1))
    rename_i hA oA FA NA dA hB tkB tB uB vB rB FB NB kB
    clear FA NA kB
    have FB3 := fr_toW (m' := fun y => if y = Str.ofString "_" then none else none) FB (fun y => by
      by_cases a1 : y = Str.ofString "_"
      · subst a1; rfl
      · rw [if_neg a1]; rfl)
    clear FB
    refine iter_rangeUnr (n := ps.length + 1) (by rfl) rB (small_one (by omega) (by omega) (by omega) (by omega)) (by rw [rangeSize_nat]; omega) FB3 NB ?_
    intro I2 hJ
    have hJn : ∀ p ∈ news, p.1 < I2 := fun p hp => hJ p (by kcf_m)
    replace hJ := allLt_of hJ
    simp only [AllLt] at hJ
    refine range_inv (fun i m' n' => ∃ (v : Option Value) (dd : Addr) (kk : Nat) (us : List Value) (zs : List Int) (oR : Obj), (m' = fun y => if y = Str.ofString "_" then v else none) ∧ n' = (dd, listOf us.toArray kk) :: (L1 + 1 + 1 + 1 + 1, oR) :: (L1 + 1 + 1 + 1, oW) :: (L1 + 1 + 1, o3) :: (L1 + 1, o4) :: (l, listOf vs.toArray n) :: news ∧ oR.data = .cell (some (.ref dd)) ∧ IntsAre us zs ∧ zs.length = ps.length ∧ zs = iterW i (diffF ps.length) ((List.range ps.length).map (fun i : Nat => rowV ps wide (1 + (i : Int)))) ∧ @Ne Nat dd (L1 + 1 + 1 + 1 + 1) ∧ @Ne Nat dd (L1 + 1 + 1 + 1) ∧ @Ne Nat dd (L1 + 1 + 1) ∧ @Ne Nat dd (L1 + 1) ∧ @Ne Nat dd I2) ?_ ?_ _ _ _ _ (by omega) ⟨none, D, _, ys, _, oA, rfl, rfl, dA, hys, by simp, rfl, ?_⟩
    · rintro i m' n' t9 h9 tk9 it hin ⟨v, dd, kk, us, zs, oR, rfl, rfl, hoR, hus, hzl, hzs, hn1, hn2, hn3, hn4, hn5⟩ hit F9 N9
      rw [ififW, Int.zero_add] at F9
      clear FB3 NB
      try k_fold
      repeat ((fail_if_success (with_reducible show LCg.CompSrc _ _ _ _ _ _ _ _ _ _ _ _ _ _)); (first | (k_unfold; (try dsimp only)) | walk1))
      rename_i hC tkC tC uC vC rC FC NC kC
      clear kC
      refine LCg.CompSrc.range (by rfl) FC NC rC (small_one (by omega) (by omega) (by omega) (by omega)) (n := ps.length) (by rw [rangeSize_nat]; omega) (by rw [PySem.sizeLine_eq]; omega) ?_
      intro g'
      refine kcf_range (diffV zs) (fun k t I oI C oC D9 m₂ ys h tk E' hlo hhi hC hx F N offc nec hMk => ?_) ?_
      · simp only [LCg.Off3] at offc
        have hzl4 : zs.length ≤ 4 := by omega
        have hz1 : k < zs.length := by omega
        have hz2 : k < 2 ^ 63 := by omega
        clear FC NC
        k_steps
        · exact kcf_el (by unfold diffV; rw [if_pos (by assumption)]) rfl rfl
        · exact kcf_el (by unfold diffV; rw [if_neg (by assumption)]) rfl rfl
      · clear FC NC
        k_steps
        rename_i hI8 hL8 D hA tkA F5 N5 oD hB oB F6 N6 dB
        refine UnrEnd.intro F6 N6 ((D, listOf ys.toArray ys.length) :: (L1 + 1 + 1 + 1 + 1, oB) :: (L1 + 1 + 1 + 1, oW) :: (L1 + 1 + 1, o3) :: (L1 + 1, o4) :: (l, listOf vs.toArray n) :: news) ?_ ?_ ⟨_, D, _, ys, _, oB, rfl, rfl, dB, hI8, ?_, ?_, ?_⟩
        · kcf_all
        · intro p hp
          simp only [List.mem_cons] at hp
          rcases hp with rfl | rfl | rfl | rfl | rfl | rfl | hp
          · exact Ne.symm oD.1
          · exact Nat.ne_of_lt hJ.2.1
          · exact Nat.ne_of_lt hJ.2.2.1
          · exact Nat.ne_of_lt hJ.2.2.2.1
          · exact Nat.ne_of_lt hJ.2.2.2.2.1
          · exact Nat.ne_of_lt hJ.2.2.2.2.2.1
          · exact Nat.ne_of_lt (hJn p hp)
        · simp only [List.length_map, rangeKs_length]
        · rw [hzs]; rfl
        · exact ⟨Ne.symm oD.2.2.1, Ne.symm oD.2.2.2.1, Ne.symm oD.2.2.2.2.1, Ne.symm oD.2.2.2.2.2.1, Ne.symm oD.1⟩
    · rintro m' n' h tk ⟨v, dd, kk, us, zs, oR, rfl, rfl, hoR, hus, hzl, hzs, hn1, hn2, hn3, hn4, hn5⟩ F9 N9
      clear FB3 NB
      k_unmd
      dsimp only [qk]
      k_steps
      rename Fr h₀ L _ _ => Fz
      rename News h₀ L _ _ => Nz
      exact ret _ _ _ _ _ (by rw [show weights ps wide = zs from hzs.symm]; exact hus) Fz (cb_drop Nz (by kcf_all))
    · exact ⟨by omega, by omega, by omega, by omega, by omega⟩
end Mine
end
section
open PySem PySem.W PyProof.Rows PySem.Calls
set_option maxRecDepth 100000
namespace Mine
section
variable {M : Model} {A : Around} {R : GenEnd} {Y : Protocol} {n : Nat} {s₀ : Shared} {c : Code} {fs : List Frame} {s : Shared} {env : Env}
  {K : Flow → Sem Fin} {H : Value → Sem Fin} {gd : Bool → Bool} {lv : List Value → List Value}
theorem seg_If {test : Expr} {body orelse : List Stmt} {pos : Pos}
    (h : wpAny M (A.over c fs) (isTrue test env (eval test env)) (fun b s' => Seg M A R Y n s₀ c ((if b = true then execs body env else execs orelse env).wrap K H gd lv) fs s') (fun _ _ => False) s) :
    Seg M A R Y n s₀ c ((exec (.If test body orelse pos) env).wrap K H gd lv) fs s := by
  rw [exec_If]
  refine seg_at ?_
  show Seg M A R Y n s₀ c (Sem.wrap _ _ _ _ (isTrue test env (eval test env) >>= _)) fs s
  rw [Sem.bind_eq_wrap', Sem.wrap_wrap]
  exact seg_wrap (wpAny_mono h (fun _ _ x => x) fun _ _ x => x.elim)
theorem seg_For {target iter : Expr} {body orelse : List Stmt} {pos : Pos} (hs : ∀ x, foldedSetIterable iter env x = pure x)
    (h : wpAny M (A.over c fs) (eval iter env) (fun x s' => wpAny M (A.over c fs) (pyIter x) (fun it s'' => ∀ p, Seg M A R Y n s₀ (.forLoop target it body orelse env) (M.den (.forLoop target it body orelse env))
      (.ret (fun r => ((match r with | .ok f => (.pure f : Sem Flow) | .error e => .raise e).onRaise fun (x : Value) => do
        if (← field x 1) == Value.none then unsupported "frame.own-activation:exception-without-traceback"
        setFlight x env.frame).wrap K H gd lv) none (gd false) (lv []) c p [] :: fs) s'') (fun _ _ => False) s') (fun _ _ => False) s) :
    Seg M A R Y n s₀ c ((exec (.For target iter body orelse pos) env).wrap K H gd lv) fs s := by
  rw [exec_For]
  refine seg_at ?_
  show Seg M A R Y n s₀ c (Sem.wrap _ _ _ _ (eval iter env >>= _)) fs s
  rw [Sem.bind_eq_wrap', Sem.wrap_wrap]
  refine seg_wrap (wpAny_mono h (fun x s' hx => ?_) fun _ _ x => x.elim)
  rw [hs x]
  refine seg_at ?_
  show Seg M A R Y n s₀ c (Sem.wrap _ _ _ _ (holding [x] (pyIter x) >>= _)) fs s'
  rw [Sem.bind_eq_wrap', Sem.wrap_wrap]
  refine seg_wrap (wpAny_holding (wpAny_mono hx (fun it s'' hi => ?_) fun _ _ x => x.elim))
  exact seg_call hi
end
section
variable {prog : Program} {w : World} {A : Around} {R : GenEnd} {Y : Protocol} {n : Nat} {s₀ : Shared} {fs : List Frame} {s : Shared} {env : Env}
def forK (target : Expr) (it : Value) (body : List Stmt) (env : Env) : Flow → Sem Fin := fun f => match f with
  | .next | .cont => .pure (.again (.forLoop target it body [] env))
  | .brk => .pure (.done .next)
  | .ret v => .pure (.done (.ret v))
def forH (env : Env) : Value → Sem Fin := fun e => (do noteFrame e env; theTreesLotGoes e : Sem Unit).wrap (fun _ => .raise e) .raise id id
theorem seg_forLoop {target : Expr} {it : Value} {body : List Stmt} (ht : ∀ v, letOwnedTupleGo target it v = pure ())
    (h : wpAny (model prog w) (A.over (.forLoop target it body [] env) fs) (pyNext it) (fun r s' => match r with
        | none => Seg (model prog w) A R Y n s₀ (.forLoop target it body [] env) (.pure (.again (.block [] env))) fs s'
        | some v => wpAny (model prog w) (A.over (.forLoop target it body [] env) fs) (assign target env v) (fun _ s'' =>
            Seg (model prog w) A R Y n s₀ (.forLoop target it body [] env) ((execs body env).wrap (forK target it body env) (forH env) id id) fs s'') (fun _ _ => False) s') (fun _ _ => False) s) :
    Seg (model prog w) A R Y n s₀ (.forLoop target it body [] env) ((model prog w).den (.forLoop target it body [] env)) fs s := by
  show Seg _ A R Y n s₀ _ ((forTurn target it body [] env).onRaise (fun x => do noteFrame x env; theTreesLotGoes x)) fs s
  unfold forTurn
  rw [Sem.onRaise_eq_wrap]
  refine seg_at ?_
  show Seg _ A R Y n s₀ _ (Sem.wrap _ _ _ _ (((pyNext it).onRaise (fun _ => standAt { target.pos with line := 0 })) >>= _)) fs s
  rw [Sem.bind_eq_wrap', Sem.wrap_wrap]
  refine seg_wrap (wpAny_onRaise (wpAny_mono h (fun r s' hr => ?_) fun _ _ hf => hf.elim))
  cases r with
  | none => exact hr
  | some v =>
    dsimp only at hr ⊢
    rw [ht v]
    show Seg _ A R Y n s₀ _ (Sem.wrap _ _ _ _ (assign target env v >>= _)) fs s'
    rw [Sem.bind_eq_wrap', Sem.wrap_wrap]
    refine seg_wrap (wpAny_mono hr (fun _ s'' hs => ?_) fun _ _ hf => hf.elim)
    show Seg _ A R Y n s₀ _ (Sem.wrap _ _ _ _ (execs body env >>= _)) fs s''
    rw [Sem.bind_eq_wrap', Sem.wrap_wrap]
    rw [Sem.wrap_congr (execs body env) _ _ (K' := forK target it body env) (H' := forH env) (fun f => by cases f <;> rfl)
      (fun e => by first | exact Sem.bind_eq_wrap _ _ | (show (do noteFrame e env; theTreesLotGoes e : Sem Unit).bind (fun _ => .raise e) = _; rw [Sem.bind_eq_wrap]; rfl))]
    exact hs
end
end Mine
end
section
open PySem PySem.W PyProof.Rows PySem.Calls
set_option maxRecDepth 100000
namespace Mine
def KeepsBut (Lg I : Addr) (h h' : Heap) : Prop := ∀ b o, b ≠ Lg → b ≠ I → h.get? b = some o → h'.get? b = some o
def Rl (Lg I : Addr) (s₀ s : Shared) : Prop := ∃ h tk, s = { s₀ with heap := h, toks := tk } ∧ KeepsBut Lg I s₀.heap h
def GY (h₀ : Heap) (Lg I l : Addr) (lo : Obj) (T : Nat → Option Int) : Protocol := fun m s₀ v s₁ kap =>
  ∃ x t oLg oI, T (m + 1) = some x ∧ v = .int x t ∧ Rl Lg I s₀ s₁ ∧ s₁.heap.get? Lg = some oLg ∧ s₁.heap.get? I = some oI ∧
    (0 < m → ∀ s₂ : Shared, s₂.heap.get? Lg = some oLg → s₂.heap.get? I = some oI → s₂.heap.get? l = some lo → (∀ b o, h₀.get? b = some o → s₂.heap.get? b = some o) → kap (.send .none) s₂)
def GP (Lg I : Addr) (T : Nat → Option Int) : Nat → Shared → Shared → Prop := fun n s₀ s₁ => T n = none ∧ Rl Lg I s₀ s₁
def GR (Lg I : Addr) (T : Nat → Option Int) : GenEnd := fun n s₀ r s₁ => r = .ok (.ret .none) ∧ GP Lg I T n s₀ s₁
theorem Rl.refl {Lg I : Addr} {s : Shared} : Rl Lg I s s := ⟨s.heap, s.toks, rfl, fun _ _ _ _ e => e⟩
theorem Rl.step {Lg I : Addr} {s₀ s : Shared} {h : Heap} {tk : Nat} (r : Rl Lg I s₀ s) (k : KeepsBut Lg I s.heap h) : Rl Lg I s₀ { s with heap := h, toks := tk } := by
  obtain ⟨h1, tk1, rfl, k1⟩ := r
  exact ⟨h, tk, rfl, fun b o x y e => k b o x y (k1 b o x y e)⟩
structure GS (h₀ : Heap) (Lg I l : Addr) (us : List Value) (nu : Nat) (s : Shared) (m : Str → Option Value) (j : Nat) : Prop where
  fr : Fr h₀ Lg s.heap m
  it : s.heap.IsListIter I l j
  li : s.heap.get? l = some (listOf us.toArray nu)
def TestIs (prog : Program) (w : World) (h₀ : Heap) (Lg : Addr) (env : Env) (t : Expr) (m : Str → Option Value) (b : Bool) : Prop :=
  ∀ (A' : Around) (s : Shared) (Q : Bool → Shared → Prop) (E : Value → Shared → Prop), A'.handled = none → A'.depth + 8 < recursionLimit → A'.units + 60 < cLine → Fr h₀ Lg s.heap m →
    (∀ tk, Q b { s with toks := tk }) → wpAny (model prog w) A' (isTrue t env (eval t env)) Q E s
structure Room (A' : Around) : Prop where
  hh : A'.handled = none
  hd : A'.depth + 8 < recursionLimit
  hu : A'.units + 60 < cLine
section
variable {prog : Program} {w : World} {A : Around} {h₀ : Heap} {nm : Str} {sc : Scope} {Lg fa I l : Addr} {cd : Value} {T : Nat → Option Int} {us : List Value} {nu : Nat} {R : GenEnd}
  {fs : List Frame} {x y : Str} {n : Nat} {s₀ s : Shared} {m : Str → Option Value} {j : Nat} {z : Int} {t : Tok}
  {t1 t2 : Expr} {b1 b2 : List Stmt} {q0 q1 q2 q3 q4 q5 q6 q7 q8 q9 q10 q11 q12 q13 q14 : Pos}
def gBody (t1 t2 : Expr) (b1 b2 : List Stmt) (x y : Str) (q2 q8 q9 q10 q11 q12 q13 q14 : Pos) : List Stmt :=
  [.If t1 b1 [] q2, .If t2 b2 [] q8, .Expr (.Yield (some (.Name x q9)) q10) q11, .Assign [.Name y q12] (.Name x q13) q14]
theorem GS.put (hLI : I ≠ Lg) (hlL : l ≠ Lg) {h' : Heap} {tk : Nat} {m' : Str → Option Value} (st : GS h₀ Lg I l us nu s m j) (F : Fr h₀ Lg h' m') (hs : Heap.SameBut Lg s.heap h') : GS h₀ Lg I l us nu { s with heap := h', toks := tk } m' j := by
  obtain ⟨f, ⟨o, e, r⟩, li⟩ := st
  exact ⟨F, ⟨o, (hs.2 I hLI).trans e, r⟩, (hs.2 l hlL).trans li⟩
theorem fr_st {h₀ : Heap} {L : Addr} {m : Str → Option Value} {scope : Scope} {a : Addr} {M : Model} {A : Around} {E : Value → Shared → Prop} {x : Str} {v : Value} {Q : Unit → Shared → Prop} (F : Fr h₀ L s.heap m)
    (h : ∀ h', Fr h₀ L h' (fun y => if y = x then some v else m y) → Heap.SameBut L s.heap h' → Q () { s with heap := h', toks := s.toks + 1 })
    (hk : scope.kind = .function) (hl : (envOf nm scope L a cd).kindOf x = some .local) :
    wpAny M A (storeName (envOf nm scope L a cd) x v) Q E s :=
  wpAny_storeName_local hl F.ns (fun h' hn hs => h h' (F.set hn hs) hs) (by show (scope.kind == .class || (scope.kind == .module && L != mainGlobals)) = false; rw [hk]; rfl)
theorem same_but {Lg I : Addr} {h h' : Heap} (k : Heap.SameBut Lg h h') : KeepsBut Lg I h h' := fun b o x _ e => (k.2 b x).trans e
theorem gen_turn (hLI : I ≠ Lg) (hlL : l ≠ Lg) (hlI : l ≠ I) (hI₀ : h₀.get? I = none) (hk : sc.kind = .function) (hco : sc.isCoroutine = false) (hi : interactive (envOf nm sc Lg fa cd) = false) (hx : (envOf nm sc Lg fa cd).kindOf x = some .local) (hy : (envOf nm sc Lg fa cd).kindOf y = some .local) (hxd : (x == ("__debug__" : Str)) = false)
    (hsw : swapsWith (.Name x q13) (some (.Name y q12)) q14.line (envOf nm sc Lg fa cd) = pure false)
    (hfs : splitAtGen fs = none) (hfg : fs.any Frame.guarded = false) (rm : ∀ body, Room (A.over (.forLoop (.Name x q0) (.ref I) body [] (envOf nm sc Lg fa cd)) fs))
    (hz : us[j]? = some (.int z t)) (hT : T (n + 1) = some z) (st : GS h₀ Lg I l us nu s m j) (rel : Rl Lg I s₀ s)
    (h1 : TestIs prog w h₀ Lg (envOf nm sc Lg fa cd) t1 (fun k => if k = x then some (.int z t) else m k) false) (h2 : TestIs prog w h₀ Lg (envOf nm sc Lg fa cd) t2 (fun k => if k = x then some (.int z t) else m k) false)
    (next : 0 < n → ∀ s₂ s₃, Rl Lg I s₂ s₃ → GS h₀ Lg I l us nu s₃ (fun k => if k = y then some (.int z t) else if k = x then some (.int z t) else m k) (j + 1) →
      Seg (model prog w) A R (GY h₀ Lg I l (listOf us.toArray nu) T) n s₂ (.forLoop (.Name x q0) (.ref I) (gBody t1 t2 b1 b2 x y q2 q8 q9 q10 q11 q12 q13 q14) [] (envOf nm sc Lg fa cd)) ((model prog w).den (.forLoop (.Name x q0) (.ref I) (gBody t1 t2 b1 b2 x y q2 q8 q9 q10 q11 q12 q13 q14) [] (envOf nm sc Lg fa cd))) fs s₃) :
    Seg (model prog w) A R (GY h₀ Lg I l (listOf us.toArray nu) T) (n + 1) s₀ (.forLoop (.Name x q0) (.ref I) (gBody t1 t2 b1 b2 x y q2 q8 q9 q10 q11 q12 q13 q14) [] (envOf nm sc Lg fa cd)) ((model prog w).den (.forLoop (.Name x q0) (.ref I) (gBody t1 t2 b1 b2 x y q2 q8 q9 q10 q11 q12 q13 q14) [] (envOf nm sc Lg fa cd))) fs s := by
  refine seg_forLoop (fun _ => rfl) (wpAny_pyNext_list_item st.it ⟨_, st.li, rfl, nu, rfl⟩ (by rw [List.getElem?_toArray]; exact hz) fun h' hit hsb => ?_)
  dsimp only
  have F1 : Fr h₀ Lg h' m := ⟨st.fr.ns.sameBut hsb (Ne.symm hLI), fun b o e => (hsb.2 b (fun q => by rw [q, hI₀] at e; cases e)).trans (st.fr.keep b o e), st.fr.above⟩
  have st1 : GS h₀ Lg I l us nu { s with heap := h' } m (j + 1) := ⟨F1, hit, (hsb.2 l hlI).trans st.li⟩
  refine wpAny_assign_Name (fr_st F1 (fun h2' F2 s2 => ?_) hk hx)
  have st2 := st1.put hLI hlL (tk := s.toks + 1) F2 s2
  have rel2 : ∀ tk, Rl Lg I s₀ { s with heap := h2', toks := tk } := fun tk => rel.step fun b o x y e => (s2.2 b x).trans ((hsb.2 b y).trans e)
  have r := rm (gBody t1 t2 b1 b2 x y q2 q8 q9 q10 q11 q12 q13 q14)
  refine seg_execs_cons (seg_If (h1 _ _ _ _ r.hh r.hd r.hu F2 fun tk1 => ?_))
  rw [if_neg Bool.false_ne_true]
  refine seg_execs_nil ?_
  refine seg_execs_cons (seg_If (h2 _ _ _ _ r.hh r.hd r.hu F2 fun tk2 => ?_))
  rw [if_neg Bool.false_ne_true]
  refine seg_execs_nil ?_
  refine seg_execs_cons (seg_Expr_Yield hfs rfl hfg (ld F2 (by rw [if_pos rfl]) (fun kap hkap => ?_) hk hx hxd) hco hi)
  obtain ⟨oLg, es, ep, eLg, _⟩ := F2.ns
  obtain ⟨oI, eI, _⟩ := st2.it
  refine ⟨z, t, oLg, oI, hT, rfl, rel2 _, eLg, eI, fun hn s₂ e1 e2 e3 k => hkap .none s₂ ?_⟩
  have F3 : Fr h₀ Lg s₂.heap (fun k => if k = x then some (.int z t) else m k) := by
    obtain ⟨o, es, ep, e, r⟩ := F2.ns
    rw [show h2'.get? Lg = some oLg from eLg] at e
    exact ⟨⟨oLg, es, ep, e1, by cases e; exact r⟩, k, F2.above⟩
  have st3 : GS h₀ Lg I l us nu s₂ (fun k => if k = x then some (.int z t) else m k) (j + 1) := by
    obtain ⟨o, e, r⟩ := st2.it
    rw [show h2'.get? I = some oI from eI] at e
    exact ⟨F3, ⟨oI, e2, by cases e; exact r⟩, e3⟩
  refine seg_execs_cons (seg_wrap (wpAny_Assign_Name (ld F3 (by rw [if_pos rfl]) (fr_st F3 (fun h4 F4 s4 => ?_) hk hy) hk hx hxd) hsw))
  refine seg_execs_nil ?_
  exact seg_again rfl (next hn s₂ _ (Rl.refl.step (same_but s4)) (st3.put hLI hlL F4 s4))
theorem gs_next (hlI : l ≠ I) (hI₀ : h₀.get? I = none) (hLI : I ≠ Lg) {h' : Heap} (st : GS h₀ Lg I l us nu s m j) (hit : h'.IsListIter I l (j + 1)) (hsb : Heap.SameBut I s.heap h') : GS h₀ Lg I l us nu { s with heap := h' } m (j + 1) :=
  ⟨⟨st.fr.ns.sameBut hsb (Ne.symm hLI), fun b o e => (hsb.2 b (fun q => by rw [q, hI₀] at e; cases e)).trans (st.fr.keep b o e), st.fr.above⟩, hit, (hsb.2 l hlI).trans st.li⟩
theorem gen_stop (hLI : I ≠ Lg) (hlL : l ≠ Lg) (hlI : l ≠ I) (hI₀ : h₀.get? I = none) (hk : sc.kind = .function) (hx : (envOf nm sc Lg fa cd).kindOf x = some .local)
    (rm : ∀ body, Room (A.over (.forLoop (.Name x q0) (.ref I) body [] (envOf nm sc Lg fa cd)) fs))
    (hz : us[j]? = some (.int z t)) (st : GS h₀ Lg I l us nu s m j) (rel : Rl Lg I s₀ s)
    (h1 : TestIs prog w h₀ Lg (envOf nm sc Lg fa cd) t1 (fun k => if k = x then some (.int z t) else m k) true)
    (fin : ∀ c s', Rl Lg I s₀ s' → Seg (model prog w) A R (GY h₀ Lg I l (listOf us.toArray nu) T) n s₀ c (leafOf (.ok (.ret .none))) fs s') :
    Seg (model prog w) A R (GY h₀ Lg I l (listOf us.toArray nu) T) n s₀ (.forLoop (.Name x q0) (.ref I) (gBody t1 t2 [.Return none q1] b2 x y q2 q8 q9 q10 q11 q12 q13 q14) [] (envOf nm sc Lg fa cd)) ((model prog w).den (.forLoop (.Name x q0) (.ref I) (gBody t1 t2 [.Return none q1] b2 x y q2 q8 q9 q10 q11 q12 q13 q14) [] (envOf nm sc Lg fa cd))) fs s := by
  refine seg_forLoop (fun _ => rfl) (wpAny_pyNext_list_item st.it ⟨_, st.li, rfl, nu, rfl⟩ (by rw [List.getElem?_toArray]; exact hz) fun h' hit hsb => ?_)
  dsimp only
  have st1 := gs_next hlI hI₀ hLI st hit hsb
  refine wpAny_assign_Name (fr_st st1.fr (fun h2' F2 s2 => ?_) hk hx)
  have rel2 : ∀ tk, Rl Lg I s₀ { s with heap := h2', toks := tk } := fun tk => rel.step fun b o x y e => (s2.2 b x).trans ((hsb.2 b y).trans e)
  have r := rm (gBody t1 t2 [.Return none q1] b2 x y q2 q8 q9 q10 q11 q12 q13 q14)
  refine seg_execs_cons (seg_If (h1 _ _ _ _ r.hh r.hd r.hu F2 fun tk1 => ?_))
  rw [if_pos rfl]
  refine seg_execs_cons ?_
  rw [exec_Return_none]
  exact seg_at (fin _ _ (rel2 _))
theorem gen_done {body : List Stmt} (rm : ∀ body, Room (A.over (.forLoop (.Name x q0) (.ref I) body [] (envOf nm sc Lg fa cd)) fs)) (hz : us[j]? = none) (st : GS h₀ Lg I l us nu s m j) (rel : Rl Lg I s₀ s)
    (fin : ∀ c s', Rl Lg I s₀ s' → Seg (model prog w) A R (GY h₀ Lg I l (listOf us.toArray nu) T) n s₀ c (leafOf (.ok .next)) fs s') :
    Seg (model prog w) A R (GY h₀ Lg I l (listOf us.toArray nu) T) n s₀ (.forLoop (.Name x q0) (.ref I) body [] (envOf nm sc Lg fa cd)) ((model prog w).den (.forLoop (.Name x q0) (.ref I) body [] (envOf nm sc Lg fa cd))) fs s := by
  refine seg_forLoop (fun _ => rfl) (wpAny_pyNext_list_end (rm body).hh st.it ⟨_, st.li, rfl, nu, rfl⟩ (by rw [List.getElem?_toArray]; exact hz) fun h' hsb => ?_)
  dsimp only
  refine seg_again rfl ?_
  exact fin _ _ (rel.step fun b o x y e => hsb b o y e)
theorem gen_zero {t3 tw : Expr} {b3 : List Stmt} (hLI : I ≠ Lg) (hlL : l ≠ Lg) (hlI : l ≠ I) (hI₀ : h₀.get? I = none) (hk : sc.kind = .function) (hco : sc.isCoroutine = false) (hi : interactive (envOf nm sc Lg fa cd) = false) (hx : (envOf nm sc Lg fa cd).kindOf x = some .local) (hy : (envOf nm sc Lg fa cd).kindOf y = some .local) (hyd : (y == ("__debug__" : Str)) = false) (hxy : y ≠ x)
    (hfs : splitAtGen fs = none) (hfg : fs.any Frame.guarded = false) (rm : ∀ body, Room (A.over (.forLoop (.Name x q0) (.ref I) body [] (envOf nm sc Lg fa cd)) fs))
    (rm2 : ∀ body k p, Room (A.over (.whileLoop tw [.Expr (.Yield (some (.Name y q4)) q5) q6] [] (envOf nm sc Lg fa cd)) (.ret k none false [] (.forLoop (.Name x q0) (.ref I) body [] (envOf nm sc Lg fa cd)) p [] :: fs)))
    {z' : Int} {t' : Tok} (hz : us[j]? = some (.int z t)) (hm : m y = some (.int z' t')) (hT : T 1 = some z') (st : GS h₀ Lg I l us nu s m j) (rel : Rl Lg I s₀ s)
    (h1 : TestIs prog w h₀ Lg (envOf nm sc Lg fa cd) t1 (fun k => if k = x then some (.int z t) else m k) false) (h2 : TestIs prog w h₀ Lg (envOf nm sc Lg fa cd) t2 (fun k => if k = x then some (.int z t) else m k) true)
    (h3 : TestIs prog w h₀ Lg (envOf nm sc Lg fa cd) t3 (fun k => if k = x then some (.int z t) else m k) false) (h4 : TestIs prog w h₀ Lg (envOf nm sc Lg fa cd) tw (fun k => if k = x then some (.int z t) else m k) true) :
    Seg (model prog w) A R (GY h₀ Lg I l (listOf us.toArray nu) T) 1 s₀ (.forLoop (.Name x q0) (.ref I) (gBody t1 t2 b1 [.If t3 b3 [] q3, .While tw [.Expr (.Yield (some (.Name y q4)) q5) q6] [] q7] x y q2 q8 q9 q10 q11 q12 q13 q14) [] (envOf nm sc Lg fa cd)) ((model prog w).den (.forLoop (.Name x q0) (.ref I) (gBody t1 t2 b1 [.If t3 b3 [] q3, .While tw [.Expr (.Yield (some (.Name y q4)) q5) q6] [] q7] x y q2 q8 q9 q10 q11 q12 q13 q14) [] (envOf nm sc Lg fa cd))) fs s := by
  refine seg_forLoop (fun _ => rfl) (wpAny_pyNext_list_item st.it ⟨_, st.li, rfl, nu, rfl⟩ (by rw [List.getElem?_toArray]; exact hz) fun h' hit hsb => ?_)
  dsimp only
  have st1 := gs_next hlI hI₀ hLI st hit hsb
  refine wpAny_assign_Name (fr_st st1.fr (fun h2' F2 s2 => ?_) hk hx)
  have st2 := st1.put hLI hlL (tk := s.toks + 1) F2 s2
  have rel2 : ∀ tk, Rl Lg I s₀ { s with heap := h2', toks := tk } := fun tk => rel.step fun b o x y e => (s2.2 b x).trans ((hsb.2 b y).trans e)
  have r := rm (gBody t1 t2 b1 [.If t3 b3 [] q3, .While tw [.Expr (.Yield (some (.Name y q4)) q5) q6] [] q7] x y q2 q8 q9 q10 q11 q12 q13 q14)
  refine seg_execs_cons (seg_If (h1 _ _ _ _ r.hh r.hd r.hu F2 fun tk1 => ?_))
  rw [if_neg Bool.false_ne_true]
  refine seg_execs_nil ?_
  refine seg_execs_cons (seg_If (h2 _ _ _ _ r.hh r.hd r.hu F2 fun tk2 => ?_))
  rw [if_pos rfl]
  refine seg_execs_cons (seg_If (h3 _ _ _ _ r.hh r.hd r.hu F2 fun tk3 => ?_))
  rw [if_neg Bool.false_ne_true]
  refine seg_execs_nil ?_
  refine seg_execs_cons (seg_While fun p => ?_)
  have r2 := rm2 (gBody t1 t2 b1 [.If t3 b3 [] q3, .While tw [.Expr (.Yield (some (.Name y q4)) q5) q6] [] q7] x y q2 q8 q9 q10 q11 q12 q13 q14)
  refine seg_whileLoop (h4 _ _ _ _ (r2 _ _).hh (r2 _ _).hd (r2 _ _).hu F2 fun tk4 => ?_)
  rw [if_pos rfl]
  refine seg_execs_cons (seg_Expr_Yield (by simp only [splitAtGen, hfs]; rfl) rfl (by rw [List.any_cons, hfg]; rfl) (ld F2 (by rw [if_neg hxy]; exact hm) (fun kap hkap => ?_) hk hy hyd) hco hi)
  obtain ⟨oLg, es, ep, eLg, _⟩ := F2.ns
  obtain ⟨oI, eI, _⟩ := st2.it
  exact ⟨z', t', oLg, oI, hT, rfl, rel2 _, eLg, eI, fun hn => absurd hn (Nat.lt_irrefl _)⟩
end
end Mine
end
section
open PySem PySem.W PyProof.Rows PySem.Calls
set_option maxRecDepth 100000
namespace Mine
def tailF (i : Int) : List Int := if i = 0 then [] else if i = 1 then [0] else if i = 2 then [127, 3] else [0, 5]
def toldT (p q i : Int) (n : Nat) : Option Int := if n = 3 then some p else if n = 2 then some q else if n = 1 then (if i % 2 = 1 then some q else none) else none
section
variable {prog : Program} {w : World} {A : Around} {h₀ : Heap} {nm : Str} {sc : Scope} {Lg fa I l : Addr} {cd : Value} {us : List Value} {nu : Nat}
  {fs : List Frame} {x y : Str} {s₀ s : Shared} {m : Str → Option Value} {p q i : Int}
  {t1 t2 t3 tw : Expr} {b3 : List Stmt} {q0 q1 q2 q3 q4 q5 q6 q7 q8 q9 q10 q11 q12 q13 q14 : Pos}
theorem gen_main (hLI : I ≠ Lg) (hlL : l ≠ Lg) (hlI : l ≠ I) (hI₀ : h₀.get? I = none) (hk : sc.kind = .function) (hco : sc.isCoroutine = false) (hin : interactive (envOf nm sc Lg fa cd) = false) (hx : (envOf nm sc Lg fa cd).kindOf x = some .local) (hy : (envOf nm sc Lg fa cd).kindOf y = some .local) (hxd : (x == ("__debug__" : Str)) = false) (hyd : (y == ("__debug__" : Str)) = false) (hxy : y ≠ x)
    (hsw : swapsWith (.Name x q13) (some (.Name y q12)) q14.line (envOf nm sc Lg fa cd) = pure false)
    (hfs : splitAtGen fs = none) (hfg : fs.any Frame.guarded = false) (rm : ∀ body, Room (A.over (.forLoop (.Name x q0) (.ref I) body [] (envOf nm sc Lg fa cd)) fs))
    (rm2 : ∀ body k p, Room (A.over (.whileLoop tw [.Expr (.Yield (some (.Name y q4)) q5) q6] [] (envOf nm sc Lg fa cd)) (.ret k none false [] (.forLoop (.Name x q0) (.ref I) body [] (envOf nm sc Lg fa cd)) p [] :: fs)))
    (ht1 : ∀ m z t, m x = some (.int z t) → TestIs prog w h₀ Lg (envOf nm sc Lg fa cd) t1 m (decide (z = 127)))
    (ht2 : ∀ m z t, m x = some (.int z t) → TestIs prog w h₀ Lg (envOf nm sc Lg fa cd) t2 m (decide (z = 0)))
    (ht3 : ∀ m z t, m y = some (.int z t) → TestIs prog w h₀ Lg (envOf nm sc Lg fa cd) t3 m false)
    (ht4 : ∀ m, TestIs prog w h₀ Lg (envOf nm sc Lg fa cd) tw m true)
    (hi : IntsAre us ([p, q] ++ tailF i)) (hp1 : 1 ≤ p) (hp2 : p ≤ 3) (hq1 : 1 ≤ q) (hq2 : q ≤ 2) (h0 : 0 ≤ i) (h4 : i < 4)
    (fin1 : ∀ n s₀ c s', toldT p q i n = none → Rl Lg I s₀ s' → Seg (model prog w) A (GR Lg I (toldT p q i)) (GY h₀ Lg I l (listOf us.toArray nu) (toldT p q i)) n s₀ c (leafOf (.ok (.ret .none))) fs s')
    (fin2 : ∀ n s₀ c s', toldT p q i n = none → Rl Lg I s₀ s' → Seg (model prog w) A (GR Lg I (toldT p q i)) (GY h₀ Lg I l (listOf us.toArray nu) (toldT p q i)) n s₀ c (leafOf (.ok .next)) fs s')
    (st : GS h₀ Lg I l us nu s m 0) (rel : Rl Lg I s₀ s) :
    Seg (model prog w) A (GR Lg I (toldT p q i)) (GY h₀ Lg I l (listOf us.toArray nu) (toldT p q i)) 3 s₀ (.forLoop (.Name x q0) (.ref I) (gBody t1 t2 [.Return none q1] [.If t3 b3 [] q3, .While tw [.Expr (.Yield (some (.Name y q4)) q5) q6] [] q7] x y q2 q8 q9 q10 q11 q12 q13 q14) [] (envOf nm sc Lg fa cd))
      ((model prog w).den (.forLoop (.Name x q0) (.ref I) (gBody t1 t2 [.Return none q1] [.If t3 b3 [] q3, .While tw [.Expr (.Yield (some (.Name y q4)) q5) q6] [] q7] x y q2 q8 q9 q10 q11 q12 q13 q14) [] (envOf nm sc Lg fa cd))) fs s := by
  have e1 : ∀ m z t, m x = some (.int z t) → z ≠ 127 → TestIs prog w h₀ Lg (envOf nm sc Lg fa cd) t1 m false := fun m z t e n => by have := ht1 m z t e; rwa [decide_eq_false n] at this
  have e2 : ∀ m z t, m x = some (.int z t) → z ≠ 0 → TestIs prog w h₀ Lg (envOf nm sc Lg fa cd) t2 m false := fun m z t e n => by have := ht2 m z t e; rwa [decide_eq_false n] at this
  have key : ∃ tp tq r, us = .int p tp :: .int q tq :: r ∧ IntsAre r (tailF i) := by
    cases hi with
    | cons _ tp r =>
    cases r with
    | cons _ tq r => exact ⟨tp, tq, _, rfl, r⟩
  obtain ⟨tp, tq, r, rfl, hr⟩ := key
  refine gen_turn hLI hlL hlI hI₀ hk hco hin hx hy hxd hsw hfs hfg rm (z := p) (t := tp) rfl rfl st rel (e1 _ _ _ (if_pos rfl) (by omega)) (e2 _ _ _ (if_pos rfl) (by omega)) fun _ s₂ s₃ rel2 st2 => ?_
  refine gen_turn hLI hlL hlI hI₀ hk hco hin hx hy hxd hsw hfs hfg rm (z := q) (t := tq) rfl rfl st2 rel2 (e1 _ _ _ (if_pos rfl) (by omega)) (e2 _ _ _ (if_pos rfl) (by omega)) fun _ s₄ s₅ rel3 st3 => ?_
  have h : i = 0 ∨ i = 1 ∨ i = 2 ∨ i = 3 := by omega
  rcases h with rfl | rfl | rfl | rfl
  · have hr' : IntsAre r [] := hr
    cases hr'
    exact gen_done rm rfl st3 rel3 fun c s' r => fin2 1 _ c s' rfl r
  · have hr' : IntsAre r [0] := hr
    cases hr' with
    | cons _ t0 r =>
    cases r
    exact gen_zero hLI hlL hlI hI₀ hk hco hin hx hy hyd hxy hfs hfg rm rm2 (z := 0) (t := t0) (z' := q) (t' := tq) rfl (if_pos rfl) rfl st3 rel3 (e1 _ _ _ (if_pos rfl) (by omega)) (ht2 _ 0 t0 (if_pos rfl)) (ht3 _ q tq (by rw [if_neg hxy, if_pos rfl])) (ht4 _)
  · have hr' : IntsAre r [127, 3] := hr
    cases hr' with
    | cons _ t0 r =>
    exact gen_stop hLI hlL hlI hI₀ hk hx rm (z := 127) (t := t0) rfl st3 rel3 (ht1 _ 127 t0 (if_pos rfl)) fun c s' r => fin1 1 _ c s' rfl r
  · have hr' : IntsAre r [0, 5] := hr
    cases hr' with
    | cons _ t0 r =>
    exact gen_zero hLI hlL hlI hI₀ hk hco hin hx hy hyd hxy hfs hfg rm rm2 (z := 0) (t := t0) (z' := q) (t' := tq) rfl (if_pos rfl) rfl st3 rel3 (e1 _ _ _ (if_pos rfl) (by omega)) (ht2 _ 0 t0 (if_pos rfl)) (ht3 _ q tq (by rw [if_neg hxy, if_pos rfl])) (ht4 _)
end
section
variable {prog : Program} {w : World} {A : Around} {h₀ : Heap} {nm : Str} {sc : Scope} {Lg fa I l : Addr} {cd : Value} {us : List Value} {nu : Nat}
  {g x y : Str} {s : Shared} {m : Str → Option Value} {p q i : Int} {cn t1 t2 t3 tw : Expr} {b3 : List Stmt} {p1 p3 p4 p5 q0 q1 q2 q3 q4 q5 q6 q7 q8 q9 q10 q11 q12 q13 q14 : Pos}
def gFunc (cn t1 t2 t3 tw : Expr) (b3 : List Stmt) (g x y : Str) (p1 p3 p4 p5 q0 q1 q2 q3 q4 q5 q6 q7 q8 q9 q10 q11 q12 q13 q14 : Pos) : List Stmt :=
  [.Assign [.Name y p1] cn p3, .For (.Name x q0) (.Name g p4) (gBody t1 t2 [.Return none q1] [.If t3 b3 [] q3, .While tw [.Expr (.Yield (some (.Name y q4)) q5) q6] [] q7] x y q2 q8 q9 q10 q11 q12 q13 q14) [] p5]
theorem room_over {c : Code} {k : Result → Sem Fin} {c0 : Code} {p0 : Pos} (r : A.handled = none ∧ A.depth + 16 < recursionLimit ∧ A.units + 80 < cLine) (h1 : c.weight ≤ 1) (h2 : c0.weight ≤ 1) (h3 : c.cUnits ≤ 3) (h4 : c0.cUnits ≤ 3) : Room (A.over c [.ret k none false [] c0 p0 []]) := by
  refine ⟨r.1, ?_, ?_⟩
  · show A.depth + (frameCount [(c0, p0)]) + c.weight + 8 < recursionLimit
    rw [frameCount_cons]
    have : frameCount [] = 0 := rfl
    omega
  · show A.units + (unitsOf [(c0, p0)]) + c.cUnits + 60 < cLine
    rw [unitsOf_cons]
    have : unitsOf [] = 0 := rfl
    omega
theorem room_over2 {c : Code} {k k1 : Result → Sem Fin} {c0 c1 : Code} {p0 p1 : Pos} (r : A.handled = none ∧ A.depth + 16 < recursionLimit ∧ A.units + 80 < cLine) (h1 : c.weight ≤ 1) (h2 : c0.weight ≤ 1) (h5 : c1.weight ≤ 1) (h3 : c.cUnits ≤ 3) (h4 : c0.cUnits ≤ 3) (h6 : c1.cUnits ≤ 3) :
    Room (A.over c [.ret k1 none false [] c1 p1 [], .ret k none false [] c0 p0 []]) := by
  refine ⟨r.1, ?_, ?_⟩
  · show A.depth + (frameCount [(c1, p1), (c0, p0)]) + c.weight + 8 < recursionLimit
    rw [frameCount_cons, frameCount_cons]
    have : frameCount [] = 0 := rfl
    omega
  · show A.units + (unitsOf [(c1, p1), (c0, p0)]) + c.cUnits + 60 < cLine
    rw [unitsOf_cons, unitsOf_cons]
    have : unitsOf [] = 0 := rfl
    omega
theorem gen_fresh (hlL : l ≠ Lg) (hI : s.heap.objs.size = I) (hk : sc.kind = .function) (hco : sc.isCoroutine = false) (hin : interactive (envOf nm sc Lg fa cd) = false) (hg : (envOf nm sc Lg fa cd).kindOf g = some .local) (hx : (envOf nm sc Lg fa cd).kindOf x = some .local) (hy : (envOf nm sc Lg fa cd).kindOf y = some .local)
    (hgd : (g == ("__debug__" : Str)) = false) (hxd : (x == ("__debug__" : Str)) = false) (hyd : (y == ("__debug__" : Str)) = false) (hxy : y ≠ x) (hgy : g ≠ y)
    (hcn : eval cn (envOf nm sc Lg fa cd) = pure .none) (hsw0 : swapsWith cn (some (.Name y p1)) p3.line (envOf nm sc Lg fa cd) = pure false) (hsw : swapsWith (.Name x q13) (some (.Name y q12)) q14.line (envOf nm sc Lg fa cd) = pure false)
    (rm : A.handled = none ∧ A.depth + 16 < recursionLimit ∧ A.units + 80 < cLine)
    (ht1 : ∀ m z t, m x = some (.int z t) → TestIs prog w h₀ Lg (envOf nm sc Lg fa cd) t1 m (decide (z = 127)))
    (ht2 : ∀ m z t, m x = some (.int z t) → TestIs prog w h₀ Lg (envOf nm sc Lg fa cd) t2 m (decide (z = 0)))
    (ht3 : ∀ m z t, m y = some (.int z t) → TestIs prog w h₀ Lg (envOf nm sc Lg fa cd) t3 m false)
    (ht4 : ∀ m, TestIs prog w h₀ Lg (envOf nm sc Lg fa cd) tw m true)
    (hi : IntsAre us ([p, q] ++ tailF i)) (hp1 : 1 ≤ p) (hp2 : p ≤ 3) (hq1 : 1 ≤ q) (hq2 : q ≤ 2) (h0 : 0 ≤ i) (h4 : i < 4)
    (F : Fr h₀ Lg s.heap m) (hm : m g = some (.ref l)) (hl : s.heap.get? l = some (listOf us.toArray nu)) :
    Seg (model prog w) A (GR Lg I (toldT p q i)) (GY h₀ Lg I l (listOf us.toArray nu) (toldT p q i)) 3 s (.func (gFunc cn t1 t2 t3 tw b3 g x y p1 p3 p4 p5 q0 q1 q2 q3 q4 q5 q6 q7 q8 q9 q10 q11 q12 q13 q14) (envOf nm sc Lg fa cd))
      ((model prog w).den (.func (gFunc cn t1 t2 t3 tw b3 g x y p1 p3 p4 p5 q0 q1 q2 q3 q4 q5 q6 q7 q8 q9 q10 q11 q12 q13 q14) (envOf nm sc Lg fa cd))) [] s := by
  refine seg_func (seg_execs_cons (seg_wrap (wpAny_Assign_Name (wpAny_of_eq hcn (fr_st F (fun h1 F1 s1 => ?_) hk hy)) hsw0)))
  have hl1 : h1.get? l = some (listOf us.toArray nu) := (s1.2 l hlL).trans hl
  have hsz : h1.objs.size = I := by rw [← hI]; exact s1.1
  refine seg_execs_cons (seg_For (fun _ => rfl) (ld F1 (by rw [if_neg hgy]; exact hm) (wpAny_pyIter_list ⟨_, hl1, rfl, nu, rfl⟩ fun pp => ?_) hk hg hgd))
  have up : ∀ (o : Obj) b ob, h1.get? b = some ob → (h1.push o).get? b = some ob := fun o b ob e => Heap.get?_push_of_some _ e
  have hLI : h1.objs.size ≠ Lg := Ne.symm (Nat.ne_of_lt F1.ns.lt)
  have hlI : l ≠ h1.objs.size := Nat.ne_of_lt (Heap.lt_size hl1)
  have hI₀ : h₀.get? h1.objs.size = none := next_is_new F1
  show Seg _ _ _ _ _ _ (.forLoop _ (.ref h1.objs.size) _ _ _) _ _ _
  subst hsz
  refine gen_main hLI hlL hlI hI₀ hk hco hin hx hy hxd hyd hxy hsw rfl rfl (fun _ => room_over rm (Nat.zero_le 1) (Nat.le_refl 1) (Nat.zero_le 3) (Nat.le_refl 3)) (fun _ _ _ => room_over2 rm (Nat.zero_le 1) (Nat.le_refl 1) (Nat.zero_le 1) (Nat.zero_le 3) (Nat.le_refl 3) (Nat.zero_le 3)) ht1 ht2 ht3 ht4 hi hp1 hp2 hq1 hq2 h0 h4 (fun n s₀ c s' hT r => ?_) (fun n s₀ c s' hT r => ?_)
    ⟨F1.keeps (up _), ⟨_, Heap.get?_push_size _ rfl, rfl, rfl⟩, up _ _ _ hl1⟩ ?_
  · refine seg_leaf _ ?_
    exact seg_end (.ok (.ret .none)) ⟨rfl, hT, r⟩
  · refine seg_leaf _ ?_
    exact seg_end (.ok (.ret .none)) ⟨rfl, hT, r⟩
  · exact (Rl.refl.step (same_but s1)).step fun b o _ _ e => up _ _ _ e
end
end Mine
end
section
open PySem PySem.W PyProof.Rows PySem.Calls
set_option maxRecDepth 100000
namespace Mine
section
variable {prog : Program} {w : World} {A : Around} {E : Value → Shared → Prop} {s : Shared}
theorem next_gen {a : Addr} {g n : Nat} {gs : GenState} {P : Nat → Shared → Shared → Prop} {Y : Protocol} {Q : Option Value → Shared → Prop} (hh : A.handled = none)
    (hl : s.heap.NoLimit) (hroom : A.depth < recursionLimit) (hg : s.heap.IsGen a g) (hgs : s.gens[g]? = some gs)
    (hgo : gs.Goes (model prog w) A.in1 (fun n s₀ r s₁ => r = .ok (.ret .none) ∧ P n s₀ s₁) Y n (.send .none) (s.setGen g .running))
    (hY : ∀ v s₁ gs', gs'.bare = true → Y (n - 1) (s.setGen g .running) v s₁ (fun r' s'' => match n with
        | 0 => False
        | m + 1 => gs'.Goes (model prog w) A.in1 (fun n s₀ r s₁ => r = .ok (.ret .none) ∧ P n s₀ s₁) Y m r' s'') → Q (some v) (s₁.setGen g gs'))
    (hP : ∀ s₁, P n (s.setGen g .running) s₁ → ∀ h', (∀ b o, s₁.heap.get? b = some o → h'.get? b = some o) → Q none { s₁.setGen g .finished with heap := h' }) :
    wpAny (model prog w) A (pyNext (.ref a)) Q E s := by
  unfold pyNext
  refine wpAny_bind (wpAny_attempt (wpAny_callSpecial?_slot (name := Str.ofString "__next__") hg.typeIs slot_gen_next (wpAny_call_entry slot_gen_next hg.typeIs entry_gen_next ?_ (args_gen_next _))))
  show wpAny _ A.in1 (Builtin.Generator.genWake (.ref a) (.send .none)) _ _ s
  unfold Builtin.Generator.genWake
  refine wpAny_bind (wpAny_holding (wpAny_genNumber hg (wpAny_bind (wpAny_genState hgs ?_))))
  cases gs
  case running => exact hgo.elim
  case finished => exact hgo.elim
  all_goals
    refine wpAny_bind (wpAny_roomToWake hl hroom ?_)
    show wpAny _ A.in1 (.resume g (.send .none) [] _) _ _ s
    refine wpAny_resumeQ hgs hgo (fun x s₁ hx => ?_) (fun v s₁ gs' hb hv => wpAny_pure ⟨v, rfl, wpAny_pure (hY v s₁ gs' hb hv)⟩)
    obtain ⟨rfl, hp⟩ := hx
    show wpAny _ A.in1 (newExc (.type "StopIteration") [] >>= _) _ _ _
    simp only [newExc, newTuple, raiseNew]
    refine wpAny_bind (wpAny_bind (wpAny_newObj_type (wpAny_bind (m := firstArgMember _ _) (wpAny_of_eq (a := Value.none) (by first | rfl | (simp only [firstArgMember]; rfl)) (wpAny_newObj_type ?_ (by size_fits)))) (by size_fits)))
    refine wpAny_bind (wpAny_bind (wpAny_handled ?_))
    rw [show A.in1.handled = none from hh]
    refine wpAny_throw ?_
    refine wpAny_bind (wpAny_isInstance (T := "StopIteration") (b := true) ⟨_, Heap.get?_push_size _ rfl, rfl⟩ isSubtype_stop ?_)
    exact wpAny_pure (hP s₁ hp _ fun b o e => Heap.get?_push_of_some _ (Heap.get?_push_of_some _ e))
theorem gen_def {h₀ : Heap} {L : Addr} {m : Str → Option Value} {K : Frag} {p : Program} {loose : List Str} {mean : ExcName → Option Value} {mg mb : Str → Option Value}
    {R : Result → Shared → Prop} {name qual : Str} {params : Arguments} {body : List Stmt} {scope : Scope} {dV kV doc pm cdv ct oc : Value} {an od : Option Addr} {osl : Array (Option Value)} {f : Addr} {args : Args} {binds : List (Str × Value)}
    (F : Fr h₀ L s.heap m) (X₀ : K.In h₀) (T : Top p loose mean mg mb h₀)
    (ho : K.lookup f = some ⟨oc, od, .func (fnOf name qual params body scope dV kV doc pm an cdv ct), osl⟩) (hcd : codeIn K cdv qual = true) (hroom : A.depth < recursionLimit)
    (hbind : BindsTo s (fnOf name qual params body scope dV kV doc pm an cdv ct) args binds) (hloc : ∀ y ∈ binds, scope.names.lookup y.1 = some .local)
    (h : ∀ Lg a h₂ tk, Fr h₀ Lg h₂ (fun y => binds.reverse.lookup y) → (∀ b o, s.heap.get? b = some o → h₂.get? b = some o) → h₂.IsGen a s.gens.size → s.heap.objs.size ≤ Lg → @LT.lt Nat _ Lg a →
      R (.ok (.ret (.ref a))) { s with heap := h₂, gens := s.gens.push (.fresh (.func body (envOf qual scope Lg f cdv))), toks := tk })
    (hco : scope.isCoroutine = false) (hgen : scope.isGenerator = true) (hk : scope.kind = .function)
    (hcell : ∀ x ∈ scope.names, x.2 ≠ .cell) : codeAny (model prog w) A (.call (.ref f) args) R s := by
  have X := X₀.keeps F.keep
  refine codeAny_call_generator hroom (X _ _ ho) rfl hco hgen rfl (codeRec_of X hcd) (hbind _ _ _ _ ?_)
  refine wpAny_newFunctionEnv hcell hloc (fun h₁ hns hsb => ?_) hk
  have up : ∀ b o, s.heap.get? b = some o → h₁.get? b = some o := fun b o e => hsb.extBut b o (Nat.ne_of_lt (Heap.lt_size e)) (Heap.get?_push_of_some _ e)
  refine ⟨(T.nolimit.keeps F.keep).keeps up, ?_⟩
  refine h s.heap.objs.size h₁.objs.size _ _ ⟨hns.keeps fun b o e => Heap.get?_push_of_some _ e, fun b o e => Heap.get?_push_of_some _ (up b o (F.keep b o e)), Nat.le_trans F.above (Nat.le_of_lt F.ns.lt)⟩ (fun b o e => Heap.get?_push_of_some _ (up b o e))
    ⟨_, _, _, Heap.get?_push_size _ rfl, rfl, rfl, rfl⟩ (Nat.le_refl _) hns.lt
end
end Mine
end
section
open PySem PySem.W PyProof.Rows PySem.Calls
set_option maxRecDepth 100000
namespace Mine
section
variable {prog : Program} {w : World} {A : Around} {h₀ : Heap} {nm : Str} {sc : Scope} {L fa Lg ga I l l' : Addr} {cd : Value} {R : Result → Shared → Prop} {s : Shared} {lo og oLg : Obj} {gs0 : GenState}
  {x : Str} {px : Pos} {body : List Stmt} {T : Nat → Option Int} {rest : List (Addr × Obj)} {m0 : Str → Option Value} {tv0 : List Value} {nt0 : Nat}
theorem gen_for (J : Nat → (Str → Option Value) → List Value → Prop) (hh : A.handled = none) (hroom : A.depth < recursionLimit) (hlim : h₀.NoLimit) (hk : sc.kind = .function) (hx : (envOf nm sc L fa cd).kindOf x = some .local)
    (offLg : ∀ p ∈ (l', listOf tv0.toArray nt0) :: (ga, og) :: (l, lo) :: rest, p.1 ≠ Lg)
    (offT : ∀ p ∈ (ga, og) :: (l, lo) :: (Lg, oLg) :: rest, p.1 ≠ l')
    (hgen : og.cls = .type "generator" ∧ (∃ a b, og.data = .fields #[.int ((0 : Nat) : Int) 0, a, b]) ∧ og.slots = #[])
    (turn : ∀ k z t m tv nt exn gs h tk E', k < 3 → gs.bare = true → T (k + 1) = some z → J (k + 1) m tv → Fr h₀ L h (fun y => if y = x then some (.int z t) else m y) → News h₀ L h ((l', listOf tv.toArray nt) :: (ga, og) :: (l, lo) :: exn) → (∀ p ∈ (ga, og) :: (l, lo) :: exn, p.1 ≠ l') → (∀ p ∈ rest, p ∈ exn) →
      wpAny (model prog w) A (execs body (envOf nm sc L fa cd)) (fun f s' => (f = .next ∧ 0 < k ∧ ∃ h' tk' m' tv' nt', s' = { s with heap := h', gens := #[gs], toks := tk' } ∧ Fr h₀ L h' m' ∧ News h₀ L h' ((l', listOf tv'.toArray nt') :: (ga, og) :: (l, lo) :: exn) ∧ J k m' tv') ∨ (∃ v, f = .ret v ∧ R (.ok (.ret v)) s')) E' { s with heap := h, gens := #[gs], toks := tk })
    (done : ∀ k m tv nt h tk, 0 < k → k ≤ 3 → T k = none → J k m tv → Fr h₀ L h m → News h₀ L h ((l', listOf tv.toArray nt) :: (ga, og) :: (l, lo) :: rest) → R (.ok .next) { s with heap := h, gens := #[.finished], toks := tk })
    (hI : s.heap.objs.size = I)
    (init : ∀ s₂ : Shared, s₂.heap.get? Lg = some oLg → s₂.heap.get? l = some lo → (∀ b o, h₀.get? b = some o → s₂.heap.get? b = some o) → s₂.heap.objs.size = I → gs0.Goes (model prog w) A.in1 (GR Lg I T) (GY h₀ Lg I l lo T) 3 (.send .none) s₂)
    (F : Fr h₀ L s.heap m0) (N : News h₀ L s.heap ((l', listOf tv0.toArray nt0) :: (ga, og) :: (l, lo) :: (Lg, oLg) :: rest)) (hgs : s.gens = #[gs0]) (j0 : J 3 m0 tv0) :
    codeAny (model prog w) A (.forLoop (.Name x px) (.ref ga) body [] (envOf nm sc L fa cd)) R s := by
  have hLgL : Lg ≠ L := (N (Lg, oLg) (by simp)).2.1
  have hLg₀ : h₀.get? Lg = none := (N (Lg, oLg) (by simp)).2.2
  have hIL : I ≠ L := by rw [← hI]; exact Ne.symm (Nat.ne_of_lt F.ns.lt)
  have hI₀ : h₀.get? I = none := by rw [← hI]; exact next_is_new F
  have hLgI : Lg ≠ I := by rw [← hI]; exact Nat.ne_of_lt (Heap.lt_size (N (Lg, oLg) (by simp)).1)
  have offI : ∀ p ∈ (l', listOf tv0.toArray nt0) :: (ga, og) :: (l, lo) :: rest, p.1 ≠ I := fun p hp => by
    rw [← hI]
    refine Nat.ne_of_lt (Heap.lt_size (N p ?_).1)
    rcases List.mem_cons.mp hp with rfl | hp
    · exact List.mem_cons_self
    rcases List.mem_cons.mp hp with rfl | hp
    · exact List.mem_cons_of_mem _ List.mem_cons_self
    rcases List.mem_cons.mp hp with rfl | hp
    · exact List.mem_cons_of_mem _ (List.mem_cons_of_mem _ List.mem_cons_self)
    · exact List.mem_cons_of_mem _ (List.mem_cons_of_mem _ (List.mem_cons_of_mem _ (List.mem_cons_of_mem _ hp)))
  have off : ∀ (tv : List Value) (nt : Nat), ∀ p ∈ (l', listOf tv.toArray nt) :: (ga, og) :: (l, lo) :: rest, p.1 ≠ Lg ∧ p.1 ≠ I := fun tv nt p hp => by
    rcases List.mem_cons.mp hp with rfl | hp
    · exact ⟨offLg (l', listOf tv0.toArray nt0) List.mem_cons_self, offI (l', listOf tv0.toArray nt0) List.mem_cons_self⟩
    · exact ⟨offLg p (List.mem_cons_of_mem _ hp), offI p (List.mem_cons_of_mem _ hp)⟩
  refine codeAny_forLoop (fun k s' => ∃ m tv nt gs h tk ex, k ≤ 3 ∧ 0 < k ∧ s' = { s with heap := h, gens := #[gs], toks := tk } ∧ Fr h₀ L h m ∧ News h₀ L h ((l', listOf tv.toArray nt) :: (ga, og) :: (l, lo) :: (ex ++ rest)) ∧ J k m tv ∧
      (∀ s₂ : Shared, (∀ p ∈ ex, s₂.heap.get? p.1 = some p.2) → s₂.heap.get? l = some lo → (∀ b o, h₀.get? b = some o → s₂.heap.get? b = some o) → (k = 3 → s₂.heap.objs.size = I) → gs.Goes (model prog w) A.in1 (GR Lg I T) (GY h₀ Lg I l lo T) k (.send .none) s₂) ∧ (k = 3 → h.objs.size = I)) ?_ 3
    ⟨m0, tv0, nt0, gs0, s.heap, s.toks, [(Lg, oLg)], Nat.le_refl _, by decide, by rw [← hgs], F, N, j0, fun s₂ e el k z => init s₂ (e _ List.mem_cons_self) el k (z rfl), fun _ => hI⟩ (fun _ => rfl)
  rintro k s' ⟨m, tv, nt, gs, h, tk, ex, hk3, hk0, rfl, F', N', j', go, z⟩
  obtain ⟨k, rfl⟩ : ∃ k', k = k' + 1 := ⟨k - 1, by omega⟩
  have N0 : News h₀ L h ((l', listOf tv.toArray nt) :: (ga, og) :: (l, lo) :: rest) := fun p hp => N' p (by
    rcases List.mem_cons.mp hp with rfl | hp
    · exact List.mem_cons_self
    rcases List.mem_cons.mp hp with rfl | hp
    · exact List.mem_cons_of_mem _ List.mem_cons_self
    rcases List.mem_cons.mp hp with rfl | hp
    · exact List.mem_cons_of_mem _ (List.mem_cons_of_mem _ List.mem_cons_self)
    · exact List.mem_cons_of_mem _ (List.mem_cons_of_mem _ (List.mem_cons_of_mem _ (List.mem_append_right _ hp))))
  have hga : h.IsGen ga 0 := by
    obtain ⟨c, ⟨a, b, d⟩, e⟩ := hgen
    exact ⟨og, a, b, (N0 (ga, og) (by simp)).1, c, d, e⟩
  have keepF : ∀ h1, KeepsBut Lg I h h1 → Fr h₀ L h1 m := fun h1 K1 => by
    obtain ⟨o, es, ep, e, r⟩ := F'.ns
    exact ⟨⟨o, es, ep, K1 L o (Ne.symm hLgL) (Ne.symm hIL) e, r⟩, fun b o e => K1 b o (fun q => by rw [q, hLg₀] at e; cases e) (fun q => by rw [q, hI₀] at e; cases e) (F'.keep b o e), F'.above⟩
  have keepN : ∀ h1, KeepsBut Lg I h h1 → News h₀ L h1 ((l', listOf tv.toArray nt) :: (ga, og) :: (l, lo) :: rest) := fun h1 K1 p hp =>
    ⟨K1 p.1 p.2 (off _ _ p hp).1 (off _ _ p hp).2 (N0 p hp).1, (N0 p hp).2⟩
  refine next_gen (g := 0) (n := k + 1) (gs := gs) (P := GP Lg I T) (Y := GY h₀ Lg I l lo T) hh (hlim.keeps F'.keep) hroom hga rfl
    (go _ (fun p hp => (N' p (List.mem_cons_of_mem _ (List.mem_cons_of_mem _ (List.mem_cons_of_mem _ (List.mem_append_left _ hp))))).1) (N0 (l, lo) (by simp)).1 F'.keep z) (fun v s₁ gs' hb hy => ?_) (fun s₁ hp h' hk' => ?_)
  · obtain ⟨x', t, oLg', oI', hT, rfl, ⟨h1, tk1, rfl, K1⟩, eLg, eI, cont⟩ := hy
    dsimp only
    have F1 := keepF h1 K1
    have N1 := keepN h1 K1
    show wpAny _ _ _ _ _ { s with heap := h1, gens := #[gs'], toks := tk1 }
    refine wpAny_assign_Name (fr_st F1 (fun h2 F2 s2 => ?_) hk hx)
    have N2 : News h₀ L h2 ((l', listOf tv.toArray nt) :: (ga, og) :: (l, lo) :: ([(Lg, oLg'), (I, oI')] ++ rest)) := fun p hp => by
      have q : h1.get? p.1 = some p.2 ∧ p.1 ≠ L ∧ h₀.get? p.1 = none := by
        rcases List.mem_cons.mp hp with rfl | hp
        · exact N1 _ (by simp)
        rcases List.mem_cons.mp hp with rfl | hp
        · exact N1 _ (by simp)
        rcases List.mem_cons.mp hp with rfl | hp
        · exact N1 _ (by simp)
        rcases List.mem_cons.mp hp with rfl | hp
        · exact ⟨eLg, hLgL, hLg₀⟩
        rcases List.mem_cons.mp hp with rfl | hp
        · exact ⟨eI, hIL, hI₀⟩
        · exact N1 p (by simp [show p ∈ rest from hp])
      exact ⟨(s2.2 p.1 q.2.1).trans q.1, q.2⟩
    have offT2 : ∀ p ∈ (ga, og) :: (l, lo) :: ([(Lg, oLg'), (I, oI')] ++ rest), p.1 ≠ l' := fun p hp => by
      rcases List.mem_cons.mp hp with rfl | hp
      · exact offT _ (by simp)
      rcases List.mem_cons.mp hp with rfl | hp
      · exact offT _ (by simp)
      rcases List.mem_cons.mp hp with rfl | hp
      · exact offT (Lg, oLg) (by simp)
      rcases List.mem_cons.mp hp with rfl | hp
      · exact Ne.symm (offI (l', listOf tv0.toArray nt0) List.mem_cons_self)
      · exact offT p (by simp [show p ∈ rest from hp])
    refine wpAny_mono (turn k x' t m tv nt _ gs' h2 _ _ (by omega) hb hT j' F2 N2 offT2 (fun p hp => List.mem_append_right _ hp)) (fun f s₃ h3 => ?_) fun _ _ e => e
    rcases h3 with ⟨rfl, hk1, h', tk', m', tv', nt', rfl, F3, N3, j3⟩ | ⟨v, rfl, hr⟩
    · exact ⟨k, Nat.lt_succ_self _, m', tv', nt', gs', h', tk', [(Lg, oLg'), (I, oI')], by omega, hk1, rfl, F3, N3, j3,
        fun s₂ e el kk _ => cont hk1 s₂ (e _ List.mem_cons_self) (e _ (List.mem_cons_of_mem _ List.mem_cons_self)) el kk, fun q => absurd q (by omega)⟩
    · exact hr
  · obtain ⟨hT, h1, tk1, rfl, K1⟩ := hp
    dsimp only
    rw [show execs [] (envOf nm sc L fa cd) = pure .next from rfl]
    refine wpAny_pure ?_
    exact done (k + 1) m tv nt h' tk1 (Nat.succ_pos _) hk3 hT j' ((keepF h1 K1).keeps hk') ((keepN h1 K1).grown hk')
end
end Mine
end
section
open PySem PySem.W PyProof.Rows PySem.Calls
set_option maxRecDepth 100000
namespace Mine
local macro_rules | `(tactic| k_mem) => `(tactic| kcf_m)
def toldL (p q : Int) (k : Nat) : List Int := if k = 3 then [] else if k = 2 then [p] else if k = 1 then [p, q] else [p, q, q]
theorem look1 {y a : Str} {u : Value} : List.lookup y [(a, u)] = if y = a then some u else none := by
  simp only [List.lookup]
  by_cases h : y = a
  · rw [beq_iff_eq.mpr h, if_pos h]
  · rw [beq_eq_false_iff_ne.mpr h, if_neg h]
set_option maxHeartbeats 4000000 in
theorem siz_c {w : World} {mean : ExcName → Option Value} {mg mb : Str → Option Value} (dp un : Nat) (gd : Option (List Code)) (cn : Str) (cs : Scope) (a : Addr) (ccd : Value) (cl : List (Str × Addr)) (outer : List Env) (A₀ : Around) (base h₀ : Heap) (L : Addr) (m : Str → Option Value) (news : List (Addr × Obj)) (s : Shared) (Q E : Value → Shared → Prop)
    (B : Below A₀ base outer h₀) (F : Fr h₀ L s.heap m) (X : (Mine.hd.heap_39 w.params).In h₀) (T : Top Mine.hd.view_39 (looseW Mine.hd.view_39 []) mean mg mb h₀) (hk : cs.kind = .function)
    (l : Addr) (n : Nat) (p q i : Int) (us : List Value) (N : News h₀ L s.heap ((l, listOf us.toArray n) :: news)) (hi : IntsAre us ([p, q] ++ tailF i)) (hp1 : 1 ≤ p) (hp2 : p ≤ 3) (hq1 : 1 ≤ q) (hq2 : q ≤ 2) (h0 : 0 ≤ i) (h4 : i < 4) (hgs : s.gens = #[]) (hd : dp + 40 < recursionLimit) (hu : un + 160 < cLine)
    (ret : ∀ c us' n' h' tk' gs, Fr h₀ L h' m → News h₀ L h' ((c, listOf (List.toArray us') n') :: (l, listOf us.toArray n) :: news) → IntsAre us' ([p, q] ++ List.replicate (i % 2).toNat q) → AllBare gs → Q (.ref c) { s with heap := h', gens := gs, toks := tk' }) :
    wpAny (model PySem.Challenge.rw_to0002_01.row.prog w) (ktrTop dp un gd cn cs L a ccd cl outer) (call (.ref 54) [.ref l]) Q E s := by
  w_top off
  revert X; k_fill; intro X
  refine wpAny_call ?_
  k_dflt cell_enter
  repeat ((fail_if_success (with_reducible show wpAny _ _ (exec (Stmt.For _ _ _ _ _) _) _ _ _)); (first | (k_unfold; (try dsimp only)) | walk1))
  with_unfolding_all refine wpAny_For ?_
  repeat ((fail_if_success (with_reducible show wpAny _ _ (call (Value.ref 35) _) _ _ _)); (first | (k_unfold; (try dsimp only)) | walk1))
  rename_i g1 L1 hx0 FG1 B1 X1 T1 tkx lt hx1 lt1 h1 F1 N1
  have F2 := fr_to (m' := fun y => if y = Str.ofString "told" then some (.ref lt) else if y = Str.ofString "size" then none else if y = Str.ofString "ruler" then some (.ref l) else none) F1 (fun y => by
    by_cases a1 : y = Str.ofString "told"
    · simp only [if_pos a1]
    simp only [if_neg a1]
    refine (look1 (a := Str.ofString "ruler") (u := Value.ref l)).trans ?_
    by_cases a3 : y = Str.ofString "size"
    · subst a3; rfl
    simp only [if_neg a3])
  clear F1
  refine wpAny_call ?_
  refine' gen_def ?kF ?kX ?kT ?k6 ?k7 ?k8 ?k9 ?kB ?_ ?c2 ?c3 ?c4 ?c5
  case kF => exact F2
  case kX => exact X1
  case kT => exact T1
  case k6 => k_is
  case k7 => k_is
  case k8 => ktr_room
  case k9 => exact BindsTo.of_eq rfl
  case kB => exact locs rfl
  case c2 => exact rfl
  case c3 => exact rfl
  case c4 => exact rfl
  case c5 => decide
  intro Lg ga h2 tk2 FG K2 IG leL ltG
  dsimp only at IG ⊢
  rw [hgs] at IG ⊢
  refine wpAny_pyIter_gen IG ?_
  have FG2 := fr_to (m' := fun y => if y = Str.ofString "grouping" then some (Value.ref l) else none) FG (fun y => look1 (a := Str.ofString "grouping") (u := Value.ref l))
  clear FG
  replace K2 : ∀ b o, h1.get? b = some o → h2.get? b = some o := K2
  replace leL : @LE.le Nat _ h1.objs.size Lg := leL
  obtain ⟨og, gn1, gn2, eG, cG, dG, sG⟩ := IG
  obtain ⟨oL, es, ep, eL, dL⟩ := id FG2.ns
  have F3 := F2.keeps K2
  have hL1 : @LT.lt Nat _ L1 h1.objs.size := F2.ns.lt
  have hg1 : @LE.le Nat _ g1.objs.size L1 := F2.above
  have N2 : News g1 L1 h2 ((lt, listOf (List.toArray []) 0) :: (ga, og) :: (l, listOf us.toArray n) :: (Lg, oL) :: news) := fun x hx => by
    rcases List.mem_cons.mp hx with rfl | hx
    · exact N1.grown K2 (lt, W.listOf #[] 0) List.mem_cons_self
    rcases List.mem_cons.mp hx with rfl | hx
    · exact ⟨eG, Nat.ne_of_gt (by omega), Heap.get?_none_of_le (by omega)⟩
    rcases List.mem_cons.mp hx with rfl | hx
    · exact N1.grown K2 _ (by simp)
    rcases List.mem_cons.mp hx with rfl | hx
    · exact ⟨eL, Nat.ne_of_gt (by omega), Heap.get?_none_of_le (by omega)⟩
    · exact N1.grown K2 x (by simp [hx])
  have offL : ∀ x ∈ (lt, listOf (List.toArray []) 0) :: (ga, og) :: (l, listOf us.toArray n) :: news, x.1 ≠ Lg := fun x hx => by
    rcases List.mem_cons.mp hx with rfl | hx
    · exact Nat.ne_of_lt (Nat.lt_of_lt_of_le (Heap.lt_size (N1 _ List.mem_cons_self).1) leL)
    rcases List.mem_cons.mp hx with rfl | hx
    · exact Nat.ne_of_gt ltG
    rcases List.mem_cons.mp hx with rfl | hx
    · exact Nat.ne_of_lt (Nat.lt_of_lt_of_le (Heap.lt_size (N1 _ (List.mem_cons_of_mem _ List.mem_cons_self)).1) leL)
    · exact Nat.ne_of_lt (Nat.lt_of_lt_of_le (Heap.lt_size (N1 x (List.mem_cons_of_mem _ (List.mem_cons_of_mem _ hx))).1) leL)
  have offT : ∀ x ∈ (ga, og) :: (l, listOf us.toArray n) :: (Lg, oL) :: news, x.1 ≠ lt := fun x hx => by
    have hlt : @LT.lt Nat _ lt h1.objs.size := Heap.lt_size (N1 _ List.mem_cons_self).1
    rcases List.mem_cons.mp hx with rfl | hx
    · exact Nat.ne_of_gt (by omega)
    rcases List.mem_cons.mp hx with rfl | hx
    · exact Nat.ne_of_lt lt1.1
    rcases List.mem_cons.mp hx with rfl | hx
    · exact Nat.ne_of_gt (by omega)
    · exact Nat.ne_of_lt (allLt_mem lt1.2 x hx)
  refine gen_for (h₀ := g1) (L := L1) (lo := listOf us.toArray n) (og := og) (oLg := oL) (T := toldT p q i) (rest := news) (tv0 := []) (nt0 := 0) (l' := lt) (l := l) (I := h2.objs.size)
    (fun k m tv => ∃ v, m = (fun y => if y = Str.ofString "told" then some (.ref lt) else if y = Str.ofString "size" then v else if y = Str.ofString "ruler" then some (.ref l) else none) ∧ IntsAre tv (toldL p q k))
    ?hh ?hroom T1.nolimit rfl rfl offL offT ⟨cG, ⟨gn1, gn2, dG⟩, sG⟩ ?turn ?done rfl ?init F3 N2 rfl ⟨none, rfl, .nil⟩
  case hh => exact rfl
  case hroom => ktr_room
  case init =>
    intro s₂ eLg el keep hsz
    have F4 : Fr g1 Lg s₂.heap (fun y => if y = Str.ofString "grouping" then some (Value.ref l) else none) := ⟨⟨oL, es, ep, eLg, dL⟩, keep, FG2.above⟩
    have hlL : l ≠ Lg := offL (l, listOf us.toArray n) (List.mem_cons_of_mem _ (List.mem_cons_of_mem _ List.mem_cons_self))
    refine ⟨rfl, gen_fresh (g := Str.ofString "grouping") hlL hsz rfl rfl rfl rfl rfl rfl rfl rfl rfl ?xy ?gy rfl rfl rfl ⟨rfl, ?rd, ?ru⟩ ?t1 ?t2 ?t3 ?t4 hi hp1 hp2 hq1 hq2 h0 h4 F4 (if_pos rfl) el⟩
    case xy => decide
    case gy => decide
    case rd => ktr_room
    case ru => ktr_units
    all_goals clear ret F3 N2 N1 F2 FG2 FG1 offL B hi hgs F N F4
    case t1 =>
      intro m z t hm A' s' Q' E' hh' hd' hu' F' hQ
      repeat ((fail_if_success (with_reducible show wpAny _ _ (eval (Expr.Name _ _) _) _ _ _)); (first | (k_unfold; (try dsimp only)) | walk1))
      refine ld F' hm ?_
      repeat (first | (k_unfold; (try dsimp only)) | walk1)
      exact hQ _
    case t2 =>
      intro m z t hm A' s' Q' E' hh' hd' hu' F' hQ
      repeat ((fail_if_success (with_reducible show wpAny _ _ (eval (Expr.Name _ _) _) _ _ _)); (first | (k_unfold; (try dsimp only)) | walk1))
      refine ld F' hm ?_
      repeat (first | (k_unfold; (try dsimp only)) | walk1)
      exact hQ _
    case t3 =>
      intro m z t hm A' s' Q' E' hh' hd' hu' F' hQ
      repeat ((fail_if_success (with_reducible show wpAny _ _ (eval (Expr.Name _ _) _) _ _ _)); (first | (k_unfold; (try dsimp only)) | walk1))
      refine ld F' hm ?_
      repeat (first | (k_unfold; (try dsimp only)) | walk1)
      exact hQ _
    case t4 =>
      intro m A' s' Q' E' hh' hd' hu' F' hQ
      repeat (first | (k_unfold; (try dsimp only)) | walk1)
      exact hQ _
  case turn =>
    clear F3 N2 offL offT F2 N1 FG2
    intro k z t m9 tv nt exn gs h tk9 E' hk3 hb hT hJ F9 N9 hoff hrest
    obtain ⟨v, rfl, ht⟩ := hJ
    have F10 := fr_to (m' := fun y => if y = Str.ofString "told" then some (.ref lt) else if y = Str.ofString "size" then some (.int z t) else if y = Str.ofString "ruler" then some (.ref l) else none) F9 (fun y => by
      by_cases a1 : y = Str.ofString "size"
      · subst a1; rfl
      simp only [if_neg a1])
    clear F9
    repeat ((fail_if_success (with_reducible show wpAny _ _ (call (Value.builtin _) _) _ _ _)); (first | (k_unfold; (try dsimp only)) | walk1))
    have hlen : tv.toArray.size ≤ sizeLine := by
      have h3 : tv.length ≤ 3 := by
        rw [ht.length]
        rcases (show k = 2 ∨ k = 1 ∨ k = 0 by omega) with rfl | rfl | rfl
        · exact Nat.zero_le 3
        · exact (show 1 ≤ 3 by decide)
        · exact (show 2 ≤ 3 by decide)
      exact Nat.le_trans (by simpa using h3) (show 3 ≤ sizeLine by decide)
    refine append_K F10 N9 (Upd.head hoff) (fun h' F11 N11 => ?_) hlen
    clear F10 N9 hlen
    rcases (show k = 2 ∨ k = 1 ∨ k = 0 by omega) with rfl | rfl | rfl
    · have ht' : IntsAre tv [] := ht
      cases ht'
      clear ht
      have hz : p = z := Option.some.inj hT
      subst hz
      repeat (first | (k_unfold; (try dsimp only)) | walk1)
      exact .inl ⟨rfl, by decide, h', _, _, [.int p t], nt + 1, rfl, F11, N11, _, rfl, .cons _ _ .nil⟩
    · have ht' : IntsAre tv [p] := ht
      clear ht
      cases ht' with
      | cons _ tp r =>
      cases r
      have hz : q = z := Option.some.inj hT
      subst hz
      repeat (first | (k_unfold; (try dsimp only)) | walk1)
      exact .inl ⟨rfl, by decide, h', _, _, [.int p tp, .int q t], nt + 1, rfl, F11, N11, _, rfl, .cons _ _ (.cons _ _ .nil)⟩
    · have ht' : IntsAre tv [p, q] := ht
      clear ht
      cases ht' with
      | cons _ tp r =>
      cases r with
      | cons _ tq r =>
      cases r
      have hT' : (if i % 2 = 1 then some q else none) = some z := hT
      have hi2 : i % 2 = 1 := by
        by_cases e : i % 2 = 1
        · exact e
        · rw [if_neg e] at hT'; cases hT'
      rw [if_pos hi2] at hT'
      have hz : q = z := Option.some.inj hT'
      subst hz
      clear hT hT'
      repeat (first | (k_unfold; (try dsimp only)) | walk1)
      dsimp only
      refine .inr ⟨_, rfl, ?_⟩
      repeat (first | (k_unfold; (try dsimp only)) | walk1)
      rename_i F12 N12 _ _
      refine ret lt [.int p tp, .int q tq, .int q t] (nt + 1) h' _ #[gs] F12 (fun x hx => ?_) (by rw [hi2]; exact .cons _ _ (.cons _ _ (.cons _ _ .nil))) (fun y hy => by rw [List.mem_singleton.mp (Array.mem_def.mp hy)]; exact hb)
      rcases List.mem_cons.mp hx with rfl | hx
      · exact N12 _ List.mem_cons_self
      rcases List.mem_cons.mp hx with rfl | hx
      · exact N12 _ (List.mem_cons_of_mem _ (List.mem_cons_of_mem _ List.mem_cons_self))
      · exact N12 _ (List.mem_cons_of_mem _ (List.mem_cons_of_mem _ (List.mem_cons_of_mem _ (hrest x hx))))
  case done =>
    clear F3 N2 offL offT F2 N1 FG2
    intro k m9 tv nt h tk9 hk0 hk3 hT hJ F9 N9
    obtain ⟨v, rfl, ht⟩ := hJ
    dsimp only
    repeat (first | (k_unfold; (try dsimp only)) | walk1)
    rename_i F12 N12 _ _
    have hk1 : k = 1 := by
      rcases (show k = 1 ∨ k = 2 ∨ k = 3 by omega) with rfl | rfl | rfl
      · rfl
      · cases hT
      · cases hT
    subst hk1
    have hT' : (if i % 2 = 1 then some q else none) = none := hT
    have hi2 : i % 2 = 0 := by
      by_cases e : i % 2 = 1
      · rw [if_pos e] at hT'; cases hT'
      · omega
    refine ret lt tv nt h _ #[.finished] F12 (fun x hx => ?_) (by rw [hi2]; exact ht) (fun y hy => by rw [List.mem_singleton.mp (Array.mem_def.mp hy)]; rfl)
    rcases List.mem_cons.mp hx with rfl | hx
    · exact N12 _ List.mem_cons_self
    rcases List.mem_cons.mp hx with rfl | hx
    · exact N12 _ (List.mem_cons_of_mem _ (List.mem_cons_of_mem _ List.mem_cons_self))
    · exact N12 _ (List.mem_cons_of_mem _ (List.mem_cons_of_mem _ (List.mem_cons_of_mem _ hx)))
end Mine
end
section
open PySem PySem.W PyProof.Rows PySem.Calls PyProof.Rows.LCg
set_option maxRecDepth 100000
namespace Mine
section
variable {prog : Program} {w : World} {A : Around} {E : Value → Shared → Prop} {R : Result → Shared → Prop} {s : Shared}
theorem compTurn_two1 (elt t1 i1 t2 i2 : Expr) (scope : Scope) (pos : Pos) (it acc : Value) (env : Env) :
    compTurn (.ListComp elt [⟨t1, i1, [], 0⟩, ⟨t2, i2, [], 0⟩] scope pos) 1 it acc env = (standAt i2.pos >>= fun _ => pyNext it >>= fun r => match r with
      | none => pure (.done .next)
      | some v => letOwnedTupleGo t2 it v >>= fun _ => assign t2 env v >>= fun _ =>
        (eval elt env >>= fun x => call (.builtin "list.append") [acc, x] >>= fun _ => pure ()) >>= fun _ =>
          again (.compLoop (.ListComp elt [⟨t1, i1, [], 0⟩, ⟨t2, i2, [], 0⟩] scope pos) 1 it acc env)) := by rfl
theorem compTurn_two0 (elt t1 i1 t2 i2 : Expr) (scope : Scope) (pos : Pos) (it acc : Value) (env : Env) :
    compTurn (.ListComp elt [⟨t1, i1, [], 0⟩, ⟨t2, i2, [], 0⟩] scope pos) 0 it acc env = (standAt i1.pos >>= fun _ => pyNext it >>= fun r => match r with
      | none => pure (.done .next)
      | some v => letOwnedTupleGo t1 it v >>= fun _ => assign t1 env v >>= fun _ =>
        (eval i2 env >>= fun x => standAt i2.pos >>= fun _ => foldedSetIterable i2 env x >>= fun x => holding [x] (pyIter x) >>= fun it2 =>
          runOwn (.compStart (.ListComp elt [⟨t1, i1, [], 0⟩, ⟨t2, i2, [], 0⟩] scope pos) 1 it2 acc env) env >>= fun _ =>
          again (.compLoop (.ListComp elt [⟨t1, i1, [], 0⟩, ⟨t2, i2, [], 0⟩] scope pos) 0 it acc env))) := by rfl
theorem codeAny_two1 {elt t1 i1 t2 i2 : Expr} {scope : Scope} {pos : Pos} {it acc : Value} {env : Env} (I : Nat → Shared → Prop)
    (turn : ∀ n s, I n s → wpAny (model prog w) A (pyNext it) (fun r s₁ => match r with
      | none => R (.ok .next) s₁
      | some v => wpAny (model prog w) A (assign t2 env v) (fun _ s₂ => wpAny (model prog w) A (eval elt env) (fun x s₃ =>
          wpAny (model prog w) A (call (.builtin "list.append") [acc, x]) (fun _ s₄ => ∃ m, m < n ∧ I m s₄) (notedBy (model prog w) A env fun e s' => R (.error e) s') s₃)
          (notedBy (model prog w) A env fun e s' => R (.error e) s') s₂) (notedBy (model prog w) A env fun e s' => R (.error e) s') s₁) (notedBy (model prog w) A env fun e s' => R (.error e) s') s)
    (n : Nat) (h : I n s) (ht : ∀ v, letOwnedTupleGo t2 it v = pure () := by intro _; rfl) :
    codeAny (model prog w) A (.compLoop (.ListComp elt [⟨t1, i1, [], 0⟩, ⟨t2, i2, [], 0⟩] scope pos) 1 it acc env) R s := by
  refine codeAny_loop rfl I (fun n s hI => ?_) n h
  show wpAny _ _ ((compTurn (.ListComp elt [⟨t1, i1, [], 0⟩, ⟨t2, i2, [], 0⟩] scope pos) 1 it acc env).onRaise (fun x => do noteFrame x env; theTreesLotGoes x)) _ _ s
  refine wpAny_noted ?_
  rw [compTurn_two1]
  refine wpAny_bind (wpAny_standAt (wpAny_bind (wpAny_mono (turn n s hI) (fun r s₁ h₁ => ?_) fun _ _ h' => h')))
  cases r with
  | none => exact wpAny_pure h₁
  | some v =>
    refine wpAny_bind (wpAny_of_eq (ht v) ?_)
    exact wpAny_bind (wpAny_mono h₁ (fun _ s₂ h₂ => wpAny_bind (wpAny_bind (wpAny_mono h₂ (fun x s₃ h₃ => wpAny_bind (wpAny_mono h₃
      (fun _ s₄ h₄ => wpAny_pure (wpAny_pure ⟨rfl, h₄⟩)) fun _ _ h' => h')) fun _ _ h' => h'))) fun _ _ h' => h')
theorem codeAny_two0 {elt t1 i1 t2 i2 : Expr} {scope : Scope} {pos : Pos} {it acc : Value} {env : Env} (I : Nat → Shared → Prop)
    (turn : ∀ n s, I n s → wpAny (model prog w) A (pyNext it) (fun r s₁ => match r with
      | none => R (.ok .next) s₁
      | some v => wpAny (model prog w) A (assign t1 env v) (fun _ s₂ => wpAny (model prog w) A (eval i2 env) (fun x s₃ => wpAny (model prog w) A (pyIter x) (fun it2 s₄ =>
          codeAny (model prog w) A (.compStart (.ListComp elt [⟨t1, i1, [], 0⟩, ⟨t2, i2, [], 0⟩] scope pos) 1 it2 acc env) (fun r s' => match r with
            | .ok _ => ∃ m, m < n ∧ I m s'
            | .error e => cameBackBy (model prog w) A env (notedBy (model prog w) A env fun e s' => R (.error e) s') e s') s₄)
          (notedBy (model prog w) A env fun e s' => R (.error e) s') s₃)
          (notedBy (model prog w) A env fun e s' => R (.error e) s') s₂) (notedBy (model prog w) A env fun e s' => R (.error e) s') s₁) (notedBy (model prog w) A env fun e s' => R (.error e) s') s)
    (n : Nat) (h : I n s) (ht : ∀ v, letOwnedTupleGo t1 it v = pure () := by intro _; rfl) (hs : ∀ x, foldedSetIterable i2 env x = pure x := by intro _; rfl) :
    codeAny (model prog w) A (.compLoop (.ListComp elt [⟨t1, i1, [], 0⟩, ⟨t2, i2, [], 0⟩] scope pos) 0 it acc env) R s := by
  refine codeAny_loop rfl I (fun n s hI => ?_) n h
  show wpAny _ _ ((compTurn (.ListComp elt [⟨t1, i1, [], 0⟩, ⟨t2, i2, [], 0⟩] scope pos) 0 it acc env).onRaise (fun x => do noteFrame x env; theTreesLotGoes x)) _ _ s
  refine wpAny_noted ?_
  rw [compTurn_two0]
  refine wpAny_bind (wpAny_standAt (wpAny_bind (wpAny_mono (turn n s hI) (fun r s₁ h₁ => ?_) fun _ _ h' => h')))
  cases r with
  | none => exact wpAny_pure h₁
  | some v =>
    refine wpAny_bind (wpAny_of_eq (ht v) ?_)
    refine wpAny_bind (wpAny_mono h₁ (fun _ s₂ h₂ => wpAny_bind (wpAny_mono h₂ (fun x s₃ h₃ => wpAny_bind (wpAny_standAt (wpAny_bind (wpAny_of_eq (hs x) (wpAny_bind (wpAny_holding (wpAny_mono h₃ (fun it2 s₄ h₄ => ?_) fun _ _ h' => h')))))))
      fun _ _ h' => h')) fun _ _ h' => h')
    refine wpAny_bind (wpAny_runOwn (codeAny_mono h₄ fun r s' hr => ?_))
    cases r with
    | ok f => exact wpAny_pure ⟨rfl, hr⟩
    | error e => exact hr
theorem codeAny_start1 {elt t1 i1 t2 i2 scope pos it acc env}
    (h0 : codeAny (model prog w) A (.compLoop (.ListComp elt [⟨t1, i1, [], 0⟩, ⟨t2, i2, [], 0⟩] scope pos) 1 it acc env) R s)
    (h : wpAny (model prog w) A (pyIter it) (fun it' s' => codeAny (model prog w) A (.compLoop (.ListComp elt [⟨t1, i1, [], 0⟩, ⟨t2, i2, [], 0⟩] scope pos) 1 it' acc env) R s')
      (notedBy (model prog w) A env fun x s' => R (.error x) s') s) :
    codeAny (model prog w) A (.compStart (.ListComp elt [⟨t1, i1, [], 0⟩, ⟨t2, i2, [], 0⟩] scope pos) 1 it acc env) R s := by
  refine codeAny_of_tree ?_
  show wpAny _ _ ((compStart (.ListComp elt [⟨t1, i1, [], 0⟩, ⟨t2, i2, [], 0⟩] scope pos) 1 it acc env).onRaise (fun x => do noteFrame x env; standAt theWindowsPlace)) _ _ s
  refine wpAny_notedAt ?_
  unfold compStart
  show wpAny _ _ (ask >>= _) _ _ s
  refine wpAny_bind (wpAny_askSetting (wpAny_ite ?_))
  split
  · first
      | exact wpAny_bind (wpAny_pure (wpAny_pure (And.intro rfl h0)))
      | exact wpAny_pure (And.intro rfl h0)
  · first
      | exact wpAny_bind (wpAny_rule (wpAny_bind (wpAny_standAt (wpAny_bind (wpAny_mono h (fun it' s' h' => wpAny_pure (And.intro rfl h')) fun _ _ x => x)))))
      | (refine wpAny_bind (wpAny_rule ?_); show wpAny _ _ (standAt i2.pos >>= _) _ _ s; exact wpAny_bind (wpAny_standAt (wpAny_bind (wpAny_mono h (fun it' s' h' => wpAny_pure (And.intro rfl h')) fun _ _ x => x))))
end
section
variable {prog : Program} {w : World} {A : Around} {E : Value → Shared → Prop} {s : Shared} {h₀ : Heap} {L : Addr} {m : Str → Option Value} {env : Env}
def TurnO (prog : Program) (w : World) (A : Around) (h₀ : Heap) (L : Addr) (m : Str → Option Value) (env : Env) (iter2 : Expr) (x : Str) (scope : Scope) (cl : List (Str × Addr)) (s : Shared) (vs : List Value) (c : Nat) (J : Nat → Nat → List Value → List (Addr × Obj) → Prop) : Prop :=
  ∀ i v ys nw I oI C oC D m₂ h tk (E' : Value → Shared → Prop), vs[i]? = some v → J i 0 ys nw → NsObj oC m₂ → m₂ x = some v → Fr h₀ L h m → News h₀ L h ((I, oI) :: (C, oC) :: (D, lst ys) :: nw) → Off3 I C D nw → ((@Ne Nat I C) ∧ (@Ne Nat I D) ∧ (@Ne Nat C D)) →
    wpAny (model prog w) A (eval iter2 (compEnvC scope cl C env)) (fun xv s' => ∃ r h' tk' t u v', xv = .ref r ∧ s' = { s with heap := h', toks := tk' } ∧ IsRange h' r 0 (c : Int) 1 t u v' ∧ Fr h₀ L h' m ∧ News h₀ L h' ((I, oI) :: (C, oC) :: (D, lst ys) :: nw)) E' { s with heap := h, toks := tk }
def EndI (h₀ : Heap) (L : Addr) (m : Str → Option Value) (s : Shared) (I2 : Addr) (oI2 : Obj) (I : Addr) (oI : Obj) (C : Addr) (oC : Obj) (D : Addr) (ys : List Value) (J : List Value → List (Addr × Obj) → Prop) (y : Value) (s' : Shared) : Prop :=
  ∃ h' tk' nw', s' = { s with heap := h', toks := tk' } ∧ Fr h₀ L h' m ∧ News h₀ L h' ((I2, oI2) :: (I, oI) :: (C, oC) :: (D, lst ys) :: nw') ∧ Off1 I2 nw' ∧ Off3 I C D nw' ∧ J (ys ++ [y]) nw'
def TurnI (prog : Program) (w : World) (A : Around) (h₀ : Heap) (L : Addr) (m : Str → Option Value) (env : Env) (elt : Expr) (x x2 : Str) (scope : Scope) (cl : List (Str × Addr)) (s : Shared) (vs : List Value) (c : Nat) (J : Nat → Nat → List Value → List (Addr × Obj) → Prop) : Prop :=
  ∀ i j v t2 ys nw I2 oI2 I oI C oC D m₂ h tk (E' : Value → Shared → Prop), vs[i]? = some v → j < c → J i j ys nw → NsObj oC m₂ → m₂ x = some v → m₂ x2 = some (.int (j : Int) t2) → Fr h₀ L h m → News h₀ L h ((I2, oI2) :: (I, oI) :: (C, oC) :: (D, lst ys) :: nw) → Off1 I2 nw → Off3 I C D nw →
    ((@Ne Nat I C) ∧ (@Ne Nat I D) ∧ (@Ne Nat C D)) → ((@Ne Nat I I2) ∧ (@Ne Nat C I2) ∧ (@Ne Nat D I2)) →
    wpAny (model prog w) A (eval elt (compEnvC scope cl C env)) (EndI h₀ L m s I2 oI2 I oI C oC D ys (J i (j + 1))) E' { s with heap := h, toks := tk }
theorem Off1.mem {D : Addr} : ∀ {l : List (Addr × Obj)}, Off1 D l → ∀ p ∈ l, p.1 ≠ D
  | [], _, _, h => nomatch h
  | _ :: _, x, p, h => by
    rcases List.mem_cons.mp h with rfl | h
    · exact x.1
    · exact Off1.mem x.2 p h
theorem inner2 {elt iter iter2 : Expr} {x x2 : Str} {px px2 : Pos} {scope : Scope} {cl : List (Str × Addr)} {pos : Pos} {s₂ : Shared} {I I2 C D : Addr} {c i tk₅ : Nat} {v : Value} {vs ys : List Value} {nw : List (Addr × Obj)} {h₅ : Heap} {oI : Obj} {mx : Str → Option Value} {J : Nat → Nat → List Value → List (Addr × Obj) → Prop}
    {R : Result → Shared → Prop} (hh : A.handled = none) (hkind : scope.kind = .function) (hx2 : scope.names.lookup x2 = some .local) (hxx : x ≠ x2) (hv : vs[i]? = some v) (turnI : TurnI prog w A h₀ L m env elt x x2 scope cl s₂ vs c J)
    (hS : ∀ i j ys nw, J i j ys nw → ys.length < sizeLine) (hCL : C ≠ L) (hC₀ : h₀.get? C = none) (hDL : D ≠ L) (hD₀ : h₀.get? D = none) (hIL : L ≠ I) (hI₀ : h₀.get? I = none) (hI2L : L ≠ I2) (hI20 : h₀.get? I2 = none)
    (ne : (@Ne Nat I C) ∧ (@Ne Nat I D) ∧ (@Ne Nat C D)) (ne2 : (@Ne Nat I I2) ∧ (@Ne Nat C I2) ∧ (@Ne Nat D I2))
    (hri : IsRangeIter h₅ I2 (0 + ((0 : Nat) : Int) * 1) ((c : Int) - ((0 : Nat) : Int)) 1) (hI : h₅.get? I = some oI) (hC : h₅.Ns C mx) (hmx : mx x = some v) (F : Fr h₀ L h₅ m) (N : News h₀ L h₅ ((D, lst ys) :: nw)) (o2 : Off1 I2 nw) (o3 : Off3 I C D nw) (hj : J i 0 ys nw)
    (hR : ∀ h' tk' m' ys' nw', h'.get? I = some oI → h'.Ns C m' → Fr h₀ L h' m → News h₀ L h' ((D, lst ys') :: nw') → Off3 I C D nw' → J i c ys' nw' → R (.ok .next) { s₂ with heap := h', toks := tk' }) :
    codeAny (model prog w) A (.compStart (.ListComp elt [⟨.Name x px, iter, [], 0⟩, ⟨.Name x2 px2, iter2, [], 0⟩] scope pos) 1 (.ref I2) (.ref D) (compEnvC scope cl C env)) R { s₂ with heap := h₅, toks := tk₅ } := by
  have W2 := range_walks (prog := prog) (w := w) (A := A) (I := I2) hh 0 c
  have loop : codeAny (model prog w) A (.compLoop (.ListComp elt [⟨.Name x px, iter, [], 0⟩, ⟨.Name x2 px2, iter2, [], 0⟩] scope pos) 1 (.ref I2) (.ref D) (compEnvC scope cl C env)) R { s₂ with heap := h₅, toks := tk₅ } := by
    refine codeAny_two1
      (fun k s' => ∃ h' tk j ys m' nw, s' = { s₂ with heap := h', toks := tk } ∧ j ≤ c ∧ k = c + 1 - j ∧ IsRangeIter h' I2 (0 + ((j : Nat) : Int) * 1) ((c : Int) - ((j : Nat) : Int)) 1 ∧ h'.get? I = some oI ∧ h'.Ns C m' ∧ m' x = some v ∧ Fr h₀ L h' m ∧ News h₀ L h' ((D, lst ys) :: nw) ∧ Off1 I2 nw ∧ Off3 I C D nw ∧ J i j ys nw) ?_ (c + 1)
      ⟨h₅, _, 0, ys, mx, nw, rfl, Nat.zero_le _, rfl, hri, hI, hC, hmx, F, N, o2, o3, hj⟩
    rintro k s' ⟨h', tk, j, ys, m', nw, rfl, hi, rfl, hit, hI', hn', hm', F', N', o2', o3', hj'⟩
    have off2 := Off1.mem o2'
    have off3 := o3'.mem
    by_cases hlt : j < c
    · refine W2.item j _ _ _ hlt hit fun v2 h₂ tk₂ hPv hst₂ hk₂ => ?_
      obtain ⟨t2, rfl⟩ := hPv
      have N₂ : News h₀ L h₂ ((D, lst ys) :: nw) := news_but N' hk₂ fun p hp => by
        rcases List.mem_cons.mp hp with rfl | hp
        · exact ne2.2.2
        · exact off2 p hp
      refine wpAny_assign_Name (wpAny_storeName_local (lookup_relabel_local hx2) (hn'.at' fun o e => hk₂ _ o (by simpa using ne2.2.1) e) (fun h₃ hn₃ hs₃ => ?_) (by simp [compEnvC, relabel, hkind]))
      have hst₃ : IsRangeIter h₃ I2 (0 + ((j + 1 : Nat) : Int) * 1) ((c : Int) - ((j + 1 : Nat) : Int)) 1 := hs₃.extBut _ _ (Ne.symm ne2.2.1) hst₂
      have eI₃ : h₃.get? I = some oI := hs₃.extBut _ _ ne.1 (hk₂ _ _ (by simpa using ne2.1) hI')
      obtain ⟨oC, heC, hoC⟩ := ns_obj hn₃
      have F₃ : Fr h₀ L h₃ m := (fr_but F' hk₂ hI2L hI20).change hs₃ hCL hC₀
      have N₃ : News h₀ L h₃ ((I2, _) :: (I, oI) :: (C, oC) :: (D, lst ys) :: nw) := fun p hp => by
        rcases List.mem_cons.mp hp with rfl | hp
        · exact ⟨hst₃, Ne.symm hI2L, hI20⟩
        rcases List.mem_cons.mp hp with rfl | hp
        · exact ⟨eI₃, Ne.symm hIL, hI₀⟩
        rcases List.mem_cons.mp hp with rfl | hp
        · exact ⟨heC, hCL, hC₀⟩
        have z := N₂ p hp
        refine ⟨hs₃.extBut _ _ ?_ z.1, z.2⟩
        rcases List.mem_cons.mp hp with rfl | hp
        · exact Ne.symm ne.2.2
        · exact (off3 p hp).2.1
      refine wpAny_mono (turnI i j v t2 ys nw I2 _ I oI C oC D _ h₃ _ _ hv hlt hj' hoC (by show (if x = x2 then _ else m' x) = _; rw [if_neg hxx]; exact hm') (by show (if x2 = x2 then _ else _) = _; rw [if_pos rfl, Int.zero_add]) F₃ N₃ o2' o3' ne ne2) (fun y s₄ h₄ => ?_) fun _ _ e => e
      obtain ⟨h₄, tk₄, nw₄, rfl, F₄, N₄, o2₄, o3₄, J₄⟩ := h₄
      have zI2 := (N₄ (I2, _) List.mem_cons_self).1
      have zI := (N₄ (I, oI) (List.mem_cons_of_mem _ List.mem_cons_self)).1
      have zC := (N₄ (C, oC) (List.mem_cons_of_mem _ (List.mem_cons_of_mem _ List.mem_cons_self))).1
      have zD := (N₄ (D, lst ys) (List.mem_cons_of_mem _ (List.mem_cons_of_mem _ (List.mem_cons_of_mem _ List.mem_cons_self)))).1
      have N₄' : News h₀ L h₄ nw₄ := fun p hp => N₄ p (List.mem_cons_of_mem _ (List.mem_cons_of_mem _ (List.mem_cons_of_mem _ (List.mem_cons_of_mem _ hp))))
      refine append_at (hsz := by show ys.toArray.size ≤ sizeLine; rw [List.size_toArray]; exact Nat.le_of_lt (hS _ _ _ _ hj')) zD fun h₅ hs₅ hD₅ => ?_
      have off4 := o3₄.mem
      refine ⟨c + 1 - (j + 1), by omega, h₅, tk₄, j + 1, ys ++ [y], _, nw₄, rfl, hlt, rfl, hs₅.extBut _ _ (Ne.symm ne2.2.2) zI2, hs₅.extBut _ _ ne.2.1 zI, (hoC.ns zC).sameBut hs₅ ne.2.2, ?_, F₄.change hs₅ hDL hD₀, fun p hp => ?_, o2₄, o3₄, J₄⟩
      · show (if x = x2 then _ else m' x) = _
        rw [if_neg hxx]; exact hm'
      · rcases List.mem_cons.mp hp with rfl | hp
        · exact ⟨hD₅.trans (congrArg some (lst_snoc ys y)), hDL, hD₀⟩
        · exact ⟨hs₅.extBut _ _ (off4 p hp).2.2 (N₄' p hp).1, (N₄' p hp).2⟩
    · obtain rfl : j = c := Nat.le_antisymm hi (Nat.not_lt.mp hlt)
      refine W2.done _ _ _ hit fun h₂ tk₂ hk₂ => ?_
      exact hR h₂ tk₂ m' ys nw (hk₂ _ _ (by simpa using ne2.1) hI') (hn'.at' fun o e => hk₂ _ o (by simpa using ne2.2.1) e) (fr_but F' hk₂ hI2L hI20) (news_but N' hk₂ fun p hp => by
        rcases List.mem_cons.mp hp with rfl | hp
        · exact ne2.2.2
        · exact off2 p hp) o3' hj'
  exact codeAny_start1 loop (W2.self 0 _ _ _ hri loop)
set_option maxHeartbeats 1600000 in
theorem block2 {elt iter iter2 : Expr} {x x2 : Str} {px px2 : Pos} {scope : Scope} {cl : List (Str × Addr)} {pos : Pos} {s₂ : Shared} {I ax : Addr} {kx c : Nat} {vs : List Value} {news : List (Addr × Obj)} {J : Nat → Nat → List Value → List (Addr × Obj) → Prop} {RR : Value → Addr → Result → Shared → Prop}
    (hh : A.handled = none) (hsz : vs.length ≤ sizeLine) (hcz : c ≤ 1000) (hcell : ∀ y ∈ scope.names, y.2 ≠ .cell) (hkind : scope.kind = .function) (hx : scope.names.lookup x = some .local) (hx2 : scope.names.lookup x2 = some .local) (hxx : x ≠ x2)
    (hst : s₂.heap.IsListIter I ax 0) (hIx : ax ≠ I) (F : Fr h₀ L s₂.heap m) (N : News h₀ L s₂.heap news) (hIL : L ≠ I) (hI₀ : h₀.get? I = none) (off : ∀ p ∈ news, p.1 ≠ I)
    (hS : ∀ i j ys nw, J i j ys nw → (ax, listOf vs.toArray kx) ∈ nw ∧ ys.length < sizeLine) (h0 : J 0 0 [] news) (hJ : ∀ i ys nw, i < vs.length → J i c ys nw → J (i + 1) 0 ys nw)
    (turnO : TurnO prog w A h₀ L m env iter2 x scope cl s₂ vs c J) (turnI : TurnI prog w A h₀ L m env elt x x2 scope cl s₂ vs c J)
    (hs : ∀ x C, foldedSetIterable iter2 (compEnvC scope cl C env) x = pure x)
    (hRR : ∀ D C h tk m' ys news', Fr h₀ L h m → News h₀ L h ((D, lst ys) :: news') → Off1 D news' → h.Ns C m' → h₀.get? C = none → C ≠ L → C ≠ D → (∀ p ∈ news', p.1 ≠ C) → J vs.length 0 ys news' → RR (.ref D) C (.ok .next) { s₂ with heap := h, toks := tk }) :
    wpAny (model prog w) A (newList []) (fun acc s₃ => wpAny (model prog w) A (newFunctionEnv scope env.globals cl [] env.qual none .none (some env)) (fun cenv s₄ =>
      codeAny (model prog w) A (.compStart (.ListComp elt [⟨.Name x px, iter, [], 0⟩, ⟨.Name x2 px2, iter2, [], 0⟩] scope pos) 0 (.ref I) acc { cenv with scope := relabel scope env }) (RR acc cenv.locals) s₄) E s₃) E s₂ := by
  refine wpAny_newObj_type (wpAny_newFunctionEnv hcell (by intro y hy; simp at hy) (fun h₁ hns₁ hsb₁ => ?_) hkind)
  dsimp only at hns₁ hsb₁ ⊢
  generalize hH2 : s₂.heap.push { cls := .type "list", dict := none, data := .seq ([] : List Value).toArray } = H2 at hns₁ hsb₁ ⊢
  have hC : H2.objs.size = s₂.heap.objs.size + 1 := by rw [← hH2, Heap.size_push]
  have hDC : s₂.heap.objs.size ≠ H2.objs.size := by rw [hC]; exact Nat.ne_of_lt (Nat.lt_succ_self _)
  have below : ∀ b, b < s₂.heap.objs.size → b ≠ H2.objs.size ∧ b ≠ s₂.heap.objs.size := fun b hb => ⟨by rw [hC]; exact Nat.ne_of_lt (Nat.lt_succ_of_lt hb), Nat.ne_of_lt hb⟩
  have hIlt : I < s₂.heap.objs.size := by obtain ⟨o, e, _⟩ := hst; exact Heap.lt_size e
  have old : ∀ b o, s₂.heap.get? b = some o → h₁.get? b = some o := fun b o e => hsb₁.extBut b o (below b (Heap.lt_size e)).1 (Heap.get?_push_of_some _ (hH2 ▸ Heap.get?_push_of_some _ e))
  have hacc : h₁.get? s₂.heap.objs.size = some (lst []) := hsb₁.extBut _ _ hDC (Heap.get?_push_of_some _ (hH2 ▸ Heap.get?_push_size _ rfl))
  have fresh₀ : ∀ a, s₂.heap.objs.size ≤ a → h₀.get? a = none := fun a ha => by
    cases e : h₀.get? a with
    | none => rfl
    | some o' => exact absurd (Heap.lt_size (F.keep a o' e)) (Nat.not_lt.mpr ha)
  have hD₀ : h₀.get? s₂.heap.objs.size = none := fresh₀ _ (Nat.le_refl _)
  have hC₀ : h₀.get? H2.objs.size = none := fresh₀ _ (by rw [hC]; exact Nat.le_succ _)
  have hLlt : L < s₂.heap.objs.size := F.ns.lt
  have hDL : s₂.heap.objs.size ≠ L := Ne.symm (below L hLlt).2
  have hCL : H2.objs.size ≠ L := Ne.symm (below L hLlt).1
  have hCI : I ≠ H2.objs.size := (below I hIlt).1
  have hDI : I ≠ s₂.heap.objs.size := (below I hIlt).2
  have off₀ : Off3 I H2.objs.size s₂.heap.objs.size news := Off3.of fun p hp => ⟨off p hp, (below _ (Heap.lt_size (N p hp).1)).1, (below _ (Heap.lt_size (N p hp).1)).2⟩
  generalize hDe : s₂.heap.objs.size = D at *
  generalize hCe : H2.objs.size = C at *
  have loop : ∀ s₃ : Shared, s₃ = { s₂ with heap := h₁, toks := s₂.toks + ([] : List (Str × Value)).length } →
      codeAny (model prog w) A (.compLoop (.ListComp elt [⟨.Name x px, iter, [], 0⟩, ⟨.Name x2 px2, iter2, [], 0⟩] scope pos) 0 (.ref I) (.ref D) (compEnvC scope cl C env)) (RR (.ref D) C) s₃ := by
    rintro s₃ rfl
    refine codeAny_two0 (hs := fun x => hs x C)
      (fun k s' => ∃ h' tk i ys m' nw, s' = { s₂ with heap := h', toks := tk } ∧ i ≤ vs.length ∧ k = vs.length + 1 - i ∧ h'.IsListIter I ax i ∧ Fr h₀ L h' m ∧ h'.Ns C m' ∧ News h₀ L h' ((D, lst ys) :: nw) ∧ Off3 I C D nw ∧ J i 0 ys nw) ?_ (vs.length + 1)
      ⟨h₁, _, 0, [], _, news, rfl, Nat.zero_le _, rfl, (hst.at fun o e => old _ o e), F.keeps old, hns₁, fun p hp => ?_, off₀, h0⟩
    · rintro k s' ⟨h', tk, i, ys, m', nw, rfl, hi, rfl, hit, F', hn', N', off', hj⟩
      have hL := (N' _ (List.mem_cons_of_mem _ (hS _ _ _ _ hj).1)).1
      have hlist : h'.IsList ax vs.toArray := ⟨_, hL, rfl, _, rfl⟩
      have W := Walks.list (prog := prog) (w := w) (A := A) hh I ax hIx vs.toArray
      have off3 := off'.mem
      by_cases hlt : i < vs.length
      · refine W.item i _ _ _ (by simpa using hlt) ⟨hit, hlist⟩ fun v h₂ tk₂ hPv hst₂ hk₂ => ?_
        have hv : vs[i]? = some v := by simpa using hPv
        refine wpAny_assign_Name (wpAny_storeName_local (lookup_relabel_local hx) (hn'.at' fun o e => hk₂ _ o (by simpa using Ne.symm hCI) e) (fun h₃ hn₃ hs₃ => ?_) (by simp [compEnvC, relabel, hkind]))
        obtain ⟨oI, eI, dI⟩ := hst₂.1
        have eI₃ : h₃.get? I = some oI := hs₃.extBut _ _ hCI eI
        obtain ⟨oC, heC, hoC⟩ := ns_obj hn₃
        have F₃ : Fr h₀ L h₃ m := (fr_but F' hk₂ hIL hI₀).change hs₃ hCL hC₀
        have N₂ : News h₀ L h₂ ((D, lst ys) :: nw) := news_but N' hk₂ fun p hp => by
          rcases List.mem_cons.mp hp with rfl | hp
          · exact Ne.symm hDI
          · exact (off3 p hp).1
        have N₃ : News h₀ L h₃ ((I, oI) :: (C, oC) :: (D, lst ys) :: nw) := fun p hp => by
          rcases List.mem_cons.mp hp with rfl | hp
          · exact ⟨eI₃, Ne.symm hIL, hI₀⟩
          rcases List.mem_cons.mp hp with rfl | hp
          · exact ⟨heC, hCL, hC₀⟩
          have z := N₂ p hp
          refine ⟨hs₃.extBut _ _ ?_ z.1, z.2⟩
          rcases List.mem_cons.mp hp with rfl | hp
          · exact hDC
          · exact (off3 p hp).2.1
        refine wpAny_mono (turnO i v ys nw I oI C oC D _ h₃ _ _ hv hj hoC (by simp) F₃ N₃ off' ⟨hCI, hDI, Ne.symm hDC⟩) (fun xv s₄ h₄ => ?_) fun _ _ e => e
        obtain ⟨r, h₄, tk₄, t, u, v', rfl, rfl, hr, F₄, N₄⟩ := h₄
        refine wpAny_pyIter_range hr (small_one (by omega) (by omega) (by omega) (by omega)) ?_
        have hmx : (fun y => if y = x then some v else m' y) x = some v := by simp
        generalize (fun y => if y = x then some v else m' y) = mx at hoC hmx hn₃
        have zI := (N₄ (I, oI) List.mem_cons_self).1
        have zC := (N₄ (C, oC) (List.mem_cons_of_mem _ List.mem_cons_self)).1
        have zN : News h₀ L h₄ ((D, lst ys) :: nw) := fun p hp => N₄ p (List.mem_cons_of_mem _ (List.mem_cons_of_mem _ hp))
        have hI20 : h₀.get? h₄.objs.size = none := next_is_new F₄
        have hI2L : L ≠ h₄.objs.size := Nat.ne_of_lt F₄.ns.lt
        have hI2C : C ≠ h₄.objs.size := Nat.ne_of_lt (Heap.lt_size zC)
        have hI2I : I ≠ h₄.objs.size := Nat.ne_of_lt (Heap.lt_size zI)
        have hI2D : D ≠ h₄.objs.size := Nat.ne_of_lt (Heap.lt_size (zN _ List.mem_cons_self).1)
        have offI2 : Off1 h₄.objs.size nw := off1_of fun p hp => Nat.ne_of_lt (Heap.lt_size (zN p (List.mem_cons_of_mem _ hp)).1)
        have upk : ∀ (o : Obj) b ob, h₄.get? b = some ob → (h₄.push o).get? b = some ob := fun o b ob e => Heap.get?_push_of_some _ e
        refine inner2 (oI := oI) (ys := ys) (nw := nw) hh hkind hx2 hxx hv turnI (fun i j ys nw q => (hS i j ys nw q).2) hCL hC₀ hDL hD₀ hIL hI₀ hI2L hI20 ⟨hCI, hDI, Ne.symm hDC⟩ ⟨hI2I, hI2C, hI2D⟩ ?_ (upk _ I oI zI) ((hoC.ns zC).keeps (upk _)) hmx (F₄.keeps (upk _)) (zN.grown (upk _)) offI2 off' hj ?_
        · show IsRangeIter _ _ _ _ _
          rw [rangeSize_nat, Int.sub_zero, Int.toNat_natCast]
          simpa using Heap.get?_push_size _ rfl
        · intro h' tk' m' ys' nw' hI' hn' F' N' o3 hj'
          refine ⟨vs.length + 1 - (i + 1), by omega, h', tk', i + 1, ys', m', nw', rfl, hlt, rfl, ⟨oI, hI', dI⟩, F', hn', N', o3, hJ i ys' nw' hlt hj'⟩
      · obtain rfl : i = vs.length := Nat.le_antisymm hi (Nat.not_lt.mp hlt)
        refine W.done _ _ _ (by simpa using And.intro hit hlist) fun h₂ tk₂ hk₂ => ?_
        exact hRR _ _ h₂ tk₂ _ ys nw (fr_but F' hk₂ hIL hI₀) (news_but N' hk₂ fun p hp => by
          rcases List.mem_cons.mp hp with rfl | hp
          · exact Ne.symm hDI
          · exact (off3 p hp).1) off'.one (hn'.at' fun o e => hk₂ _ o (by simpa using Ne.symm hCI) e) hC₀ hCL (Ne.symm hDC) (fun p hp => (off3 p hp).2.1) hj
    · rcases List.mem_cons.mp hp with rfl | hp
      · exact ⟨hacc, hDL, hD₀⟩
      · exact ⟨old _ _ (N p hp).1, (N p hp).2⟩
  exact codeAny_compStart_list (loop _ rfl) (wpAny_pyIter_listiter ((hst.at fun o e => old _ o e)) (loop _ rfl))
def SrcT (prog : Program) (w : World) (A : Around) (h₀ : Heap) (L : Addr) (m : Str → Option Value) (env : Env) (elt iter2 : Expr) (x x2 y : Str) (scope : Scope) (cl : List (Str × Addr)) (Q : Flow → Shared → Prop) (xv : Value) (s₁ : Shared) : Prop :=
  ∃ (ax : Addr) (vs : List Value) (kx c : Nat) (J : Nat → Nat → List Value → List (Addr × Obj) → Prop) (news : List (Addr × Obj)), xv = .ref ax ∧ A.handled = none ∧ Fr h₀ L s₁.heap m ∧ News h₀ L s₁.heap news ∧ vs.length ≤ sizeLine ∧ c ≤ 1000 ∧
    (∀ i j ys nw, J i j ys nw → (ax, listOf vs.toArray kx) ∈ nw ∧ ys.length < sizeLine) ∧ J 0 0 [] news ∧ (∀ i ys nw, i < vs.length → J i c ys nw → J (i + 1) 0 ys nw) ∧
    ∀ s₂ : Shared, (∃ h, s₂ = { s₁ with heap := h }) → TurnO prog w A h₀ L m env iter2 x scope cl s₂ vs c J ∧ TurnI prog w A h₀ L m env elt x x2 scope cl s₂ vs c J ∧
      (∀ D h tk ys news', J vs.length 0 ys news' → Fr h₀ L h (fun z => if z = y then some (.ref D) else m z) → News h₀ L h ((D, lst ys) :: news') → Off1 D news' → Q .next { s₂ with heap := h, toks := tk })
theorem Assign_two {elt iter iter2 : Expr} {x x2 y : Str} {px px2 py : Pos} {scope : Scope} {cl : List (Str × Addr)} {pos spos : Pos} {Q : Flow → Shared → Prop} (F₀ : Fr h₀ L s.heap m) (hLe : env.locals = L)
    (hsw : swapsWith (.ListComp elt [⟨.Name x px, iter, [], 0⟩, ⟨.Name x2 px2, iter2, [], 0⟩] scope pos) (some (.Name y py)) spos.line env = pure true)
    (hclos : closureFor scope env = pure cl) (hcell : ∀ z ∈ scope.names, z.2 ≠ .cell) (hkind : scope.kind = .function)
    (hnames : ∀ z ∈ scope.names, z.2 = .local → scope.names.lookup z.1 = some .local) (hx : scope.names.lookup x = some .local) (hx2 : scope.names.lookup x2 = some .local) (hxx : x ≠ x2)
    (hy : env.kindOf y = some .local) (hp : (env.scope.kind == .class || (env.scope.kind == .module && env.locals != env.globals)) = false)
    (h : wpAny (model prog w) A (eval iter env) (SrcT prog w A h₀ L m env elt iter2 x x2 y scope cl Q) E s)
    (hs2 : ∀ x C, foldedSetIterable iter2 (compEnvC scope cl C env) x = pure x := by intro _ _; rfl)
    (hs : ∀ x, foldedSetIterable iter env x = pure x := by intro _; rfl) :
    wpAny (model prog w) A (exec (.Assign [.Name y py] (.ListComp elt [⟨.Name x px, iter, [], 0⟩, ⟨.Name x2 px2, iter2, [], 0⟩] scope pos) spos) env) Q E s := by
  subst hLe
  rw [exec_Assign_Name_used _ _ _ _ hsw]
  refine wpAny_bind (wpAny_standAt (wpAny_bind ?_))
  show wpAny _ A (do let _ ← comprehension (.ListComp elt [⟨.Name x px, iter, [], 0⟩, ⟨.Name x2 px2, iter2, [], 0⟩] scope pos) scope env _ (newList []) false (eval iter env) (some (assign (.Name y py) env))) _ _ s
  refine wpAny_bind (wpAny_mono (wpAny_comprehension_free (use := some (assign (.Name y py) env)) (Q := fun _ s' => Q .next s') rfl hs hclos hkind hnames
    (wpAny_mono h (fun xv s₁ h₁ => ?_) fun _ _ e => e)) (fun _ s' hq => wpAny_pure (wpAny_pure hq)) fun _ _ e => e)
  obtain ⟨ax, vs, kx, c, J, news, rfl, hh, F, N, hsz, hcz, hS, h0, hJ, R⟩ := h₁
  have hax := (N _ (hS _ _ _ _ h0).1).1
  have hl : s₁.heap.IsList ax vs.toArray := ⟨_, hax, rfl, _, rfl⟩
  have hlt : ax < s₁.heap.objs.size := Heap.lt_size hax
  refine wpAny_pyIter_list hl ?_
  have up : ∀ b o, s₁.heap.get? b = some o → (s₁.heap.push { cls := .type "list_iterator", data := .fields #[.ref ax, .int 0 0] }).get? b = some o := fun b o e => Heap.get?_push_of_some _ e
  obtain ⟨to, ti, fin⟩ := R { s₁ with heap := s₁.heap.push { cls := .type "list_iterator", data := .fields #[.ref ax, .int 0 0] } } ⟨_, rfl⟩
  refine block2 hh hsz hcz hcell hkind hx hx2 hxx ⟨_, Heap.get?_push_size _ rfl, rfl, rfl⟩ (Nat.ne_of_lt hlt) (F.keeps up) (N.grown up) (Nat.ne_of_lt F.ns.lt) (next_is_new F) (fun p hp => Nat.ne_of_lt (Heap.lt_size (N p hp).1)) hS h0 hJ to ti hs2 ?_
  intro D C h tk m' ys news' F' N' o1 hn hC₀ hCL hCD offC hj
  have hDL : D ≠ env.locals := (N' _ List.mem_cons_self).2.1
  have hD₀ : h₀.get? D = none := (N' _ List.mem_cons_self).2.2
  show wpAny _ A (assign (.Name y py) env (.ref D)) _ _ _
  refine wpAny_assign_Name (wpAny_storeName_local hy F'.ns (fun h₂ hn₂ hs₂ => ?_) hp)
  have hL₀ : h₀.get? env.locals = none := Heap.get?_none_of_le F'.above
  have F₂ : Fr h₀ env.locals h₂ (fun z => if z = y then some (.ref D) else m z) := ⟨hn₂, fun b o e => hs₂.extBut b o (fun q => by rw [q, hL₀] at e; cases e) (F'.keep b o e), F'.above⟩
  refine ⟨m', hn.sameBut hs₂ hCL, fun h'' hs'' => fin D h'' _ ys news' hj (F₂.change hs'' hCL hC₀) (fun p hp => ?_) o1⟩
  have z : h₂.get? p.1 = some p.2 := hs₂.extBut _ _ (N' p hp).2.1 (N' p hp).1
  refine ⟨hs''.extBut _ _ ?_ z, (N' p hp).2⟩
  rcases List.mem_cons.mp hp with rfl | hp
  · exact Ne.symm hCD
  · exact offC p hp
end
end Mine
end
section
open PySem PySem.W PyProof.Rows PySem.Calls PyProof.Rows.LCg
set_option maxRecDepth 100000
namespace Mine
section
variable {prog : Program} {w : World} {A : Around} {E : Value → Shared → Prop} {s : Shared} {h₀ : Heap} {L : Addr} {env : Env}
def EndF (h₀ : Heap) (L : Addr) (s : Shared) (I : Addr) (it : Obj) (Xc : Addr) (oX : Obj) (J : (Str → Option Value) → List (Addr × Obj) → Prop) (f : Flow) (s' : Shared) : Prop :=
  f = .next ∧ ∃ h' tk' m' news', s' = { s with heap := h', toks := tk' } ∧ Fr h₀ L h' m' ∧ News h₀ L h' ((I, it) :: (Xc, oX) :: news') ∧ Off1 I news' ∧ Off1 Xc news' ∧ J m' news'
def TurnF (prog : Program) (w : World) (A : Around) (h₀ : Heap) (L : Addr) (env : Env) (body : List Stmt) (Xc : Addr) (s : Shared) (n : Nat) (I : Addr) (J : Nat → (Str → Option Value) → List (Addr × Obj) → Prop) : Prop :=
  ∀ i m news it oX t h tk (E' : Value → Shared → Prop), i < n → J i m news → it.cls = .type "range_iterator" → oX.data = .cell (some (.int (i : Int) t)) → Fr h₀ L h m → News h₀ L h ((I, it) :: (Xc, oX) :: news) → @Ne Nat Xc I → Off1 I news → Off1 Xc news →
    wpAny (model prog w) A (execs body env) (EndF h₀ L s I it Xc oX (J (i + 1))) E' { s with heap := h, toks := tk }
def SrcF (prog : Program) (w : World) (A : Around) (h₀ : Heap) (L : Addr) (env : Env) (body : List Stmt) (Xc : Addr) (Q : Flow → Shared → Prop) (xv : Value) (s₁ : Shared) : Prop :=
  ∃ (r : Addr) (n : Nat) (t u v : Tok) (m : Str → Option Value) (news : List (Addr × Obj)) (oX : Obj) (v₀ : Option Value), xv = .ref r ∧ A.handled = none ∧ IsRange s₁.heap r 0 (n : Int) 1 t u v ∧ n ≤ 1000 ∧ Fr h₀ L s₁.heap m ∧ News h₀ L s₁.heap ((Xc, oX) :: news) ∧ Off1 Xc news ∧ oX.data = .cell v₀ ∧
    ∀ I, (∀ p ∈ (Xc, oX) :: news, p.1 < I) → ∀ s₂ : Shared, (∃ h, s₂ = { s₁ with heap := h }) → ∃ J : Nat → (Str → Option Value) → List (Addr × Obj) → Prop, J 0 m news ∧ TurnF prog w A h₀ L env body Xc s₂ n I J ∧
      (∀ m news h tk oX v, J n m news → oX.data = .cell v → Fr h₀ L h m → News h₀ L h ((Xc, oX) :: news) → Off1 Xc news → Q .next { s₂ with heap := h, toks := tk })
theorem For_cell {x : Str} {px pos : Pos} {iter : Expr} {body : List Stmt} {Xc : Addr} {Q : Flow → Shared → Prop} (hLe : env.locals = L) (hk : env.scope.kind = .function) (hx : env.kindOf x = some .cell) (hc : env.cells.lookup x = some Xc)
    (h : wpAny (model prog w) A (eval iter env) (SrcF prog w A h₀ L env body Xc Q) E s) (hs : ∀ x, foldedSetIterable iter env x = pure x := by intro _; rfl) :
    wpAny (model prog w) A (exec (.For (.Name x px) iter body [] pos) env) Q E s := by
  subst hLe
  refine wpAny_For (wpAny_mono h (fun xv s₁ h₁ => ?_) fun _ _ e => e) hs
  obtain ⟨r, n, t, u, v, m, news, oX, v₀, rfl, hh, hr, hn, F, N, o1, dX, R⟩ := h₁
  refine wpAny_pyIter_range hr (small_one (by omega) (by omega) (by omega) (by omega)) ?_
  have ltI : ∀ p ∈ (Xc, oX) :: news, p.1 < s₁.heap.objs.size := fun p hp => Heap.lt_size (N p hp).1
  obtain ⟨J, j0, turn, fin⟩ := R s₁.heap.objs.size ltI s₁ ⟨_, rfl⟩
  have up : ∀ (o : Obj) b ob, s₁.heap.get? b = some ob → (s₁.heap.push o).get? b = some ob := fun o b ob e => Heap.get?_push_of_some _ e
  have hIL : env.locals ≠ s₁.heap.objs.size := Nat.ne_of_lt F.ns.lt
  have hI₀ : h₀.get? s₁.heap.objs.size = none := next_is_new F
  have W2 := range_walks (prog := prog) (w := w) (A := A) (I := s₁.heap.objs.size) hh 0 n
  have zX := N (Xc, oX) List.mem_cons_self
  have hXI : @Ne Nat Xc s₁.heap.objs.size := Nat.ne_of_lt (ltI _ List.mem_cons_self)
  have hXL : Xc ≠ env.locals := zX.2.1
  have hX₀ : h₀.get? Xc = none := zX.2.2
  refine codeAny_forLoop
    (fun k s' => ∃ h' tk i m' news' oX' v', s' = { s₁ with heap := h', toks := tk } ∧ i ≤ n ∧ k = n + 1 - i ∧ IsRangeIter h' s₁.heap.objs.size (0 + ((i : Nat) : Int) * 1) ((n : Int) - ((i : Nat) : Int)) 1 ∧ Fr h₀ env.locals h' m' ∧ News h₀ env.locals h' ((Xc, oX') :: news') ∧ oX'.data = .cell v' ∧ Off1 s₁.heap.objs.size news' ∧ Off1 Xc news' ∧ J i m' news') ?_ (n + 1)
    ⟨_, _, 0, m, news, oX, v₀, rfl, Nat.zero_le _, rfl, ?_, F.keeps (up _), N.grown (up _), dX, off1_of fun p hp => Nat.ne_of_lt (ltI p (List.mem_cons_of_mem _ hp)), o1, j0⟩
  · rintro k s' ⟨h', tk, i, m', news', oX', v', rfl, hi, rfl, hit, F', N', dX', oI, o1', j'⟩
    have offI := Off1.mem oI
    have offX := Off1.mem o1'
    by_cases hlt : i < n
    · refine W2.item i _ _ _ hlt hit fun v2 h₂ tk₂ hPv hst₂ hk₂ => ?_
      obtain ⟨t2, rfl⟩ := hPv
      have N₂ : News h₀ env.locals h₂ ((Xc, oX') :: news') := news_but N' hk₂ fun p hp => by
        rcases List.mem_cons.mp hp with rfl | hp
        · exact hXI
        · exact offI p hp
      refine wpAny_assign_Name (wpAny_storeName_cell (c := Xc) hk hx hc ⟨oX', (N₂ _ List.mem_cons_self).1, dX'⟩ fun h₃ hX₃ hs₃ => ?_)
      obtain ⟨oX₃, eX₃, dX₃⟩ := hX₃
      have hst₃ : IsRangeIter h₃ s₁.heap.objs.size (0 + ((i + 1 : Nat) : Int) * 1) ((n : Int) - ((i + 1 : Nat) : Int)) 1 := hs₃.extBut _ _ (Ne.symm hXI) hst₂
      have F₃ : Fr h₀ env.locals h₃ m' := (fr_but F' hk₂ hIL hI₀).change hs₃ hXL hX₀
      have N₃ : News h₀ env.locals h₃ ((s₁.heap.objs.size, _) :: (Xc, oX₃) :: news') := fun p hp => by
        rcases List.mem_cons.mp hp with rfl | hp
        · exact ⟨hst₃, Ne.symm hIL, hI₀⟩
        rcases List.mem_cons.mp hp with rfl | hp
        · exact ⟨eX₃, hXL, hX₀⟩
        have z := N₂ p (List.mem_cons_of_mem _ hp)
        exact ⟨hs₃.extBut _ _ (offX p hp) z.1, z.2⟩
      refine wpAny_mono (turn i m' news' _ oX₃ t2 h₃ _ _ hlt j' rfl (by rw [dX₃, Int.zero_add]) F₃ N₃ hXI oI o1') (fun f s₄ h₄ => ?_) fun _ _ e => e
      obtain ⟨rfl, h₄, tk₄, m₄, news₄, rfl, F₄, N₄, oI₄, o1₄, J₄⟩ := h₄
      have zI₄ := (N₄ _ List.mem_cons_self).1
      exact ⟨n + 1 - (i + 1), by omega, h₄, tk₄, i + 1, m₄, news₄, oX₃, some (.int (0 + (i : Int)) t2), rfl, hlt, rfl, zI₄, F₄, fun p hp => N₄ p (List.mem_cons_of_mem _ hp), dX₃, oI₄, o1₄, J₄⟩
    · obtain rfl : i = n := Nat.le_antisymm hi (Nat.not_lt.mp hlt)
      refine W2.done _ _ _ hit fun h₂ tk₂ hk₂ => ?_
      rw [show execs [] env = pure .next from rfl]
      refine wpAny_pure ?_
      exact fin m' news' h₂ tk₂ oX' v' j' dX' (fr_but F' hk₂ hIL hI₀) (news_but N' hk₂ fun p hp => by
        rcases List.mem_cons.mp hp with rfl | hp
        · exact hXI
        · exact offI p hp) o1'
  · show IsRangeIter _ _ _ _ _
    rw [rangeSize_nat, Int.sub_zero, Int.toNat_natCast]
    simpa using Heap.get?_push_size _ rfl
end
end Mine
end
section
open PySem PySem.W PyProof.Rows PySem.Calls PyProof.Rows.LCg
set_option maxRecDepth 100000
namespace Mine
inductive RowsAre (nw : List (Addr × Obj)) : List Value → List (List Int) → Prop
  | nil : RowsAre nw [] []
  | cons {a : Addr} {us : List Value} {n : Nat} {xs : List Int} {vs : List Value} {oss : List (List Int)} : (a, listOf us.toArray n) ∈ nw → IntsAre us xs → RowsAre nw vs oss → RowsAre nw (.ref a :: vs) (xs :: oss)
theorem RowsAre.mono {nw nw' : List (Addr × Obj)} (h : ∀ (a : Addr) (us : List Value) (n : Nat), (a, listOf us.toArray n) ∈ nw → (a, listOf us.toArray n) ∈ nw') : ∀ {vs : List Value} {oss : List (List Int)}, RowsAre nw vs oss → RowsAre nw' vs oss
  | _, _, .nil => .nil
  | _, _, .cons hm hi r => .cons (h _ _ _ hm) hi (r.mono h)
theorem RowsAre.append {nw : List (Addr × Obj)} : ∀ {vs ws : List Value} {oss pss : List (List Int)}, RowsAre nw vs oss → RowsAre nw ws pss → RowsAre nw (vs ++ ws) (oss ++ pss)
  | _, _, _, _, .nil, s => s
  | _, _, _, _, .cons hm hi r, s => .cons hm hi (r.append s)
theorem RowsAre.length {nw : List (Addr × Obj)} : ∀ {vs : List Value} {oss : List (List Int)}, RowsAre nw vs oss → vs.length = oss.length
  | _, _, .nil => rfl
  | _, _, .cons _ _ r => by rw [List.length_cons, List.length_cons, r.length]
theorem RowsAre.at {nw : List (Addr × Obj)} : ∀ {vs : List Value} {oss : List (List Int)}, RowsAre nw vs oss → ∀ (i : Nat) (v : Value), vs[i]? = some v → ∃ a us n xs, v = .ref a ∧ oss[i]? = some xs ∧ (a, listOf us.toArray n) ∈ nw ∧ IntsAre us xs
  | _, _, .nil, i, v, h => by simp at h
  | _, _, .cons (a := a) (us := us) (n := n) (xs := xs) hm hi r, 0, v, h => ⟨a, us, n, xs, by simpa using h.symm, by simp, hm, hi⟩
  | _, _, .cons hm hi r, i + 1, v, h => by
    obtain ⟨a, us, n, xs, e, e2, hm', hi'⟩ := r.at i v (by simpa using h)
    exact ⟨a, us, n, xs, e, by simpa using e2, hm', hi'⟩
def insAt (n : Int) (xs : List Int) (j : Nat) : List Int := xs.take j ++ [n] ++ xs.drop j
def rowsOf (i : Nat) (xs : List Int) : List (List Int) := (List.range (i + 1)).map (insAt (i : Int) xs)
def ordersF : Nat → List (List Int)
  | 0 => [[]]
  | i + 1 => (ordersF i).flatMap (rowsOf i)
theorem orders_len {i : Nat} (h : i ≤ 4) : (ordersF i).length ≤ 24 := by
  have : i = 0 ∨ i = 1 ∨ i = 2 ∨ i = 3 ∨ i = 4 := by omega
  rcases this with rfl | rfl | rfl | rfl | rfl <;> decide
theorem orders_rows {i : Nat} (h : i ≤ 4) : ∀ xs ∈ ordersF i, xs.length = i := by
  have : i = 0 ∨ i = 1 ∨ i = 2 ∨ i = 3 ∨ i = 4 := by omega
  rcases this with rfl | rfl | rfl | rfl | rfl <;> decide
/-- the ledger without two addresses -/
def but2 (I X : Addr) (nw : List (Addr × Obj)) : List (Addr × Obj) := nw.filter fun p => !(Nat.beq p.1 I) && !(Nat.beq p.1 X)
theorem but2_mem {I X : Addr} {nw : List (Addr × Obj)} {p : Addr × Obj} (h : p ∈ nw) (h1 : @Ne Nat p.1 I) (h2 : @Ne Nat p.1 X) : p ∈ but2 I X nw := by
  refine List.mem_filter.mpr ⟨h, ?_⟩
  have e1 : Nat.beq p.1 I = false := by
    cases e : Nat.beq p.1 I with
    | false => rfl
    | true => exact absurd (Nat.eq_of_beq_eq_true e) h1
  have e2 : Nat.beq p.1 X = false := by
    cases e : Nat.beq p.1 X with
    | false => rfl
    | true => exact absurd (Nat.eq_of_beq_eq_true e) h2
  rw [e1, e2]; rfl
theorem but2_sub {I X : Addr} {nw : List (Addr × Obj)} {p : Addr × Obj} (h : p ∈ but2 I X nw) : p ∈ nw := (List.mem_filter.mp h).1
theorem but2_off1 {I X : Addr} {nw : List (Addr × Obj)} : Off1 I (but2 I X nw) := off1_of fun p hp e => by
  have q := (List.mem_filter.mp hp).2
  have : Nat.beq p.1 I = true := by rw [e]; exact Nat.beq_refl I
  rw [this, Bool.not_true, Bool.false_and] at q; exact absurd q (by decide)
theorem but2_off2 {I X : Addr} {nw : List (Addr × Obj)} : Off1 X (but2 I X nw) := off1_of fun p hp e => by
  have q := (List.mem_filter.mp hp).2
  have : Nat.beq p.1 X = true := by rw [e]; exact Nat.beq_refl X
  rw [this, Bool.not_true, Bool.and_false] at q; exact absurd q (by decide)
theorem ne_of_cls {h₀ h : Heap} {L a b : Addr} {oa ob : Obj} {nw : List (Addr × Obj)} (N : News h₀ L h nw) (ha : (a, oa) ∈ nw) (hb : (b, ob) ∈ nw) (hne : oa ≠ ob) : @Ne Nat a b := fun e => by
  have x := (N _ ha).1
  have y := (N _ hb).1
  rw [show a = b from e] at x
  exact hne (Option.some.inj (x.symm.trans y))
end Mine
end
section
open PySem PySem.W PyProof.Rows PySem.Calls PyProof.Rows.LCg
set_option maxRecDepth 100000
namespace Mine
section
variable {prog : Program} {w : World} {A : Around} {E : Value → Shared → Prop} {s : Shared} {h₀ : Heap} {L : Addr} {m : Str → Option Value} {env : Env}
def StayT (h₀ : Heap) (L : Addr) (m : Str → Option Value) (s : Shared) (all : List (Addr × Obj)) (s' : Shared) : Prop :=
  ∃ h' tk', s' = { s with heap := h', toks := tk' } ∧ Fr h₀ L h' m ∧ News h₀ L h' all
theorem StayT.intro {h' : Heap} {tk' : Nat} {all all' : List (Addr × Obj)} (F : Fr h₀ L h' m) (N : News h₀ L h' all') (sub : ∀ p ∈ all, p ∈ all') : StayT h₀ L m s all { s with heap := h', toks := tk' } := ⟨h', tk', rfl, F, fun p hp => N p (sub p hp)⟩
theorem rest_ones {ct elt : Expr} {x : Str} {scope : Scope} {cl : List (Str × Addr)} {P : Nat → Value → Prop} {Fin : List Value → List (Addr × Obj) → Prop} {news : List (Addr × Obj)} (tst : Nat → Bool) (n : Nat)
    (turn : ∀ i v I oI C oC D m₂ ys h tk (E' : Value → Shared → Prop), i < n → P i v → NsObj oC m₂ → m₂ x = some v → Fr h₀ L h m → News h₀ L h ((I, oI) :: (C, oC) :: (D, lst ys) :: news) → Off3 I C D news → ((@Ne Nat I C) ∧ (@Ne Nat I D) ∧ (@Ne Nat C D)) →
      wpAny (model prog w) A (isTrue ct (compEnvC scope cl C env) (eval ct (compEnvC scope cl C env))) (fun ok s' => ok = tst i ∧ StayT h₀ L m { s with heap := h, toks := tk } ((I, oI) :: (C, oC) :: (D, lst ys) :: news) s') E' { s with heap := h, toks := tk })
    (telt : ∀ C h tk (E' : Value → Shared → Prop), wpAny (model prog w) A (eval elt (compEnvC scope cl C env)) (fun y s' => (∃ t, y = .int 1 t) ∧ ∃ tk', s' = { s with heap := h, toks := tk' }) E' { s with heap := h, toks := tk }) :
    ∀ (k i : Nat) (ys : List Value) (ns : List Int), i + k = n → IntsAre ys ns → (∀ zs, IntsAre zs (ns ++ ((List.range' i k).filter tst).map fun _ => (1 : Int)) → Fin zs news) →
      LCt.CompRestT prog w A h₀ L m env ct elt x scope cl s (fun _ => True) P Fin k i ys news
  | 0, i, ys, ns, _, hy, fin => LCt.CompRestT.zero (fin ys (by simpa using hy))
  | k + 1, i, ys, ns, hn, hy, fin => by
    refine LCt.CompRestT.succ fun v I oI C oC D m₂ h tk E' hv hC hx F N off ne => ?_
    refine wpAny_mono (turn i v I oI C oC D m₂ ys h tk E' (by omega) hv hC hx F N off ne) (fun ok s' hs => ?_) fun _ _ e => e
    obtain ⟨rfl, h', tk', rfl, F', N'⟩ := hs
    cases e : tst i with
    | true =>
      rw [if_pos rfl]
      refine wpAny_mono (telt C h' tk' E') (fun y s' hs => ?_) fun _ _ e => e
      obtain ⟨⟨t, rfl⟩, tk2, rfl⟩ := hs
      refine ⟨h', tk2, news, rfl, F', N', off, trivial, ?_⟩
      refine rest_ones tst n turn telt k (i + 1) (ys ++ [.int 1 t]) (ns ++ [1]) (by omega) (IntsAre.append hy (.cons _ _ .nil)) fun zs hz => fin zs ?_
      rw [List.range'_succ, List.filter_cons_of_pos e, List.map_cons, List.append_cons]
      exact hz
    | false =>
      rw [if_neg Bool.false_ne_true]
      refine ⟨h', tk', news, rfl, F', N', off, trivial, ?_⟩
      refine rest_ones tst n turn telt k (i + 1) ys ns (by omega) hy fun zs hz => fin zs ?_
      rw [List.range'_succ, List.filter_cons_of_neg (by rw [e]; exact Bool.false_ne_true)]
      exact hz
end
end Mine
end
section
open PySem PySem.W PyProof.Rows PySem.Calls
set_option maxRecDepth 100000
namespace Mine
local macro_rules | `(tactic| walk_at "my enterC") => `(tactic| (k_dflt (refine' code_defC ?k1 ?k2 ?k3 ?k4 ?k5 ?kA ?kF ?kK ?k6 ?k7 ?k8 ?k9 ?kB ?kD ?_ ?c2 ?c3 ?c4; (case kA => exact rfl); (case kF => exact rfl); (case kK => assumption); (case k1 => k_asm); (case k2 => k_asm); (case k3 => k_asm); (case k4 => k_asm); (case k5 => k_asm); (case k6 => k_is); (case k7 => k_is); (case k8 => ktr_room); (case k9 => exact BindsTo.of_eq rfl); (case kB => exact rfl); (case kD => decide +kernel); (case c2 => exact rfl); (case c3 => exact rfl); (case c4 => exact rfl); k_whole; intro g' L' h' tk' cells' FG' F' N' Y' B' X' T' l1; (replace l1 := off4 l1); k_cells Y'; (try simp only [List.cons_append, List.nil_append] at N'); (try dsimp only); (try k_lift B'); (try k_fold))))
local macro_rules | `(tactic| k_mem) => `(tactic| kcf_m)
local macro_rules | `(tactic| walk_at "eval Name") => `(tactic| (k_here; (with_reducible show wpAny _ _ (eval (Expr.Name _ _) (compEnvC _ _ _ _)) _ _ _); k_dflt (refine kcf_cell (by k_asm) (by rfl) (by kcf_m) (by k_asm) ?_); (try dsimp only)))
local macro_rules | `(tactic| walk_at "eval ListComp") => `(tactic| (k_here; k_dflt (refine ListComp_X (F₀ := by k_asm) (by with_unfolding_all rfl) (by rfl) (by decide) (by intro _; rfl) (by intro _; rfl) (by intro _ _; rfl) ?_)))
def fallsI (k : Nat) (xs : List Int) : Int := ((List.range' 0 (k - 1)).filter fun j => decide (xs.getD (j + 1) 0 < xs.getD j 0)).length
theorem sum_ones {α : Type} (l : List α) : (l.map fun _ => (1 : Int)).sum = l.length := by
  induction l with
  | nil => rfl
  | cons a l ih => rw [List.map_cons, List.sum_cons, ih, List.length_cons, Int.natCast_succ, Int.add_comm]
def fallsF (k : Nat) : List Int := (rangeKs 0 k).map fun v => ((((List.range (ordersF k).length).map fun i => fallsI k ((ordersF k).getD i [])).count v : Nat) : Int)
theorem range_from1 {k : Nat} (h : k ≤ 4) : Builtin.Range.rangeSize 1 (k : Int) 1 = ((k - 1 : Nat) : Int) := by
  have : k = 0 ∨ k = 1 ∨ k = 2 ∨ k = 3 ∨ k = 4 := by omega
  rcases this with rfl | rfl | rfl | rfl | rfl <;> decide
local macro_rules | `(tactic| walk_at "subscriptTail Name Name ref int") => `(tactic| (k_here; (with_reducible show wpAny _ _ (subscriptTail _ _ (Value.ref _) (Value.int _ _)) _ _ _); k_dflt (refine' ksa_sub ?myg1 ?myg2 ?myg3 ?myg4 ?myg5 ?myg6 ?_ ?myg7; (case myg1 => k_asm); (case myg2 => kcf_m); (case myg3 => with_reducible assumption); (case myg4 => assumption); (case myg5 => assumption); (case myg6 => assumption); (case myg7 => with_unfolding_all rfl)); intro _))
local macro_rules | `(tactic| walk_at "subscriptTail Name BinOp ref int") => `(tactic| (k_here; (with_reducible show wpAny _ _ (subscriptTail _ _ (Value.ref _) (Value.int _ _)) _ _ _); k_dflt (refine' ksa_sub ?myk1 ?myk2 ?myk3 ?myk4 ?myk5 ?myk6 ?_ ?myk7; (case myk1 => k_asm); (case myk2 => kcf_m); (case myk3 => with_reducible assumption); (case myk4 => assumption); (case myk5 => assumption); (case myk6 => assumption); (case myk7 => with_unfolding_all rfl)); intro _))
theorem rows_len {i a j : Nat} (hi : i ≤ 4) (hj : j ≤ i + 1) : (((ordersF i).take a).flatMap (rowsOf i) ++ (List.range j).map (insAt (i : Int) ((ordersF i).getD a []))).length < 16384 := by
  rw [List.length_append, List.length_map, List.length_range, List.length_flatMap]
  have e : (List.map (fun x => (rowsOf i x).length) ((ordersF i).take a)) = List.replicate ((ordersF i).take a).length (i + 1) := by
    rw [List.eq_replicate_iff]
    refine ⟨by simp, fun b hb => ?_⟩
    obtain ⟨x, _, rfl⟩ := List.mem_map.mp hb
    simp [rowsOf]
  rw [e, List.sum_replicate_nat]
  have l1 : ((ordersF i).take a).length ≤ 24 := Nat.le_trans (by rw [List.length_take]; exact Nat.min_le_right _ _) (orders_len hi)
  have l2 : ((ordersF i).take a).length * (i + 1) ≤ 24 * 5 := Nat.mul_le_mul l1 (by omega)
  omega
theorem rows_step {i a : Nat} (h : a < (ordersF i).length) : ((ordersF i).take a).flatMap (rowsOf i) ++ (List.range (i + 1)).map (insAt (i : Int) ((ordersF i).getD a [])) = ((ordersF i).take (a + 1)).flatMap (rowsOf i) ++ [] := by
  rw [List.take_add_one, List.flatMap_append, List.append_nil, List.getElem?_eq_getElem h]
  simp [rowsOf, List.getD_eq_getElem?_getD, List.getElem?_eq_getElem h]
theorem rows_more {i a j : Nat} : ((ordersF i).take a).flatMap (rowsOf i) ++ (List.range (j + 1)).map (insAt (i : Int) ((ordersF i).getD a [])) = (((ordersF i).take a).flatMap (rowsOf i) ++ (List.range j).map (insAt (i : Int) ((ordersF i).getD a []))) ++ [insAt (i : Int) ((ordersF i).getD a []) j] := by
  rw [List.range_succ, List.map_append, ← List.append_assoc]; rfl
theorem rows_keep {h₀ h : Heap} {L I X D : Addr} {it oX : Obj} {kd : Nat} {v : Option Value} {nw : List (Addr × Obj)} {ys : List Value} {oss : List (List Int)} (R : RowsAre nw ys oss) (N : News h₀ L h nw) (hI : (I, it) ∈ nw) (hX : (X, oX) ∈ nw) (hit : it.cls = .type "range_iterator") (dX : oX.data = .cell v) : RowsAre ((D, listOf ys.toArray kd) :: but2 I X nw) ys oss :=
  R.mono fun _ _ _ q => List.mem_cons_of_mem _ (but2_mem q (ne_of_cls N q hI fun e => by
    rw [← e] at hit
    have hs : ("list" : String) = "range_iterator" := Value.type.inj hit
    exact absurd hs (by decide)) (ne_of_cls N q hX fun e => by rw [← e] at dX; cases dX))
theorem fr_toF {h₀ h' : Heap} {L : Addr} {m m' : Str → Option Value} (F : Fr h₀ L h' m) (e : ∀ y, m y = m' y) : Fr h₀ L h' m' := (funext e : m = m') ▸ F
set_option maxHeartbeats 8000000 in
theorem fal_c {w : World} {mean : ExcName → Option Value} {mg mb : Str → Option Value} (dp un : Nat) (gd : Option (List Code)) (cn : Str) (cs : Scope) (a : Addr) (ccd : Value) (cl : List (Str × Addr)) (outer : List Env) (A₀ : Around) (base h₀ : Heap) (L : Addr) (m : Str → Option Value) (news : List (Addr × Obj)) (s : Shared) (Q E : Value → Shared → Prop)
    (B : Below A₀ base outer h₀) (F : Fr h₀ L s.heap m) (X : (Mine.hd.heap_39 w.params).In h₀) (T : Top Mine.hd.view_39 (looseW Mine.hd.view_39 []) mean mg mb h₀) (hk : cs.kind = .function)
    (t2 : Tok) (k : Nat) (N : News h₀ L s.heap news) (hk4 : k ≤ 4) (hd : dp + 4 < recursionLimit) (hu : un + 40 < cLine)
    (ret : ∀ (us : List Value) (c : Addr) (n : Nat) (h' : Heap) (tk' : Nat), IntsAre us (fallsF k) → Fr h₀ L h' m → News h₀ L h' ((c, listOf us.toArray n) :: news) → Q (.ref c) { s with heap := h', toks := tk' }) :
    wpAny (model PySem.Challenge.rw_to0002_01.row.prog w) (ktrTop dp un gd cn cs L a ccd cl outer) (call (.ref 71) [.int (k : Int) t2]) Q E s := by
  w_top off
  revert X; k_fill; intro X
  refine wpAny_call ?_
  walk_at "my enterC"
  repeat ((fail_if_success (with_reducible show wpAny _ _ (exec (Stmt.For _ _ _ _ _) _) _ _ _)); (first | (k_unfold; (try dsimp only)) | walk1))
  rename_i g L1 hh1 tk1 FG B1 X1 T1 off o1 o2 o3 d1 d2 d3 la hA l1a lb hB l1b hC FC NC
  try k_fold
  k_dflt (refine For_cell (h₀ := g) (by rfl) (by rfl) (by rfl) (by rfl) ?_)
  repeat ((fail_if_success (with_reducible show SrcF _ _ _ _ _ _ _ _ _ _ _)); (first | (k_unfold; (try dsimp only)) | walk1))
  rename_i FD0 ND0 hD tkD tD uD vD rD FD ND kD
  clear kD
  have FE := fr_toF (m' := fun y => if y = Str.ofString "orders" then some (.ref lb) else none) FD (fun y => by
    by_cases a1 : y = Str.ofString "orders"
    · subst a1; rfl
    · rw [if_neg a1, if_neg a1]; rfl)
  refine ⟨_, k, _, _, _, _, (lb, listOf [Value.ref la].toArray 0) :: (la, listOf ([] : List Value).toArray 0) :: (L1 + 1 + 1 + 1, o1) :: (L1 + 1, o3) :: news, o2, none, rfl, rfl, rD, by omega, FE, cb_drop ND (by kcf_all), ?_, d2, ?_⟩
  · refine off1_of fun p hp => ?_
    simp only [List.mem_cons] at hp
    rcases hp with rfl | rfl | rfl | rfl | hp
    · exact Nat.ne_of_gt l1b.2.2.1
    · exact Nat.ne_of_gt l1a.2.1
    · exact Nat.succ_ne_self _
    · exact Nat.ne_of_lt (Nat.lt_succ_self _)
    · exact off p hp _ (List.mem_cons_of_mem _ List.mem_cons_self)
  intro I hI s₂ hs₂
  obtain ⟨h9, rfl⟩ := hs₂
  refine ⟨fun i m nw => ∃ (D : Addr) (vs : List Value) (kx : Nat), (m = fun y => if y = Str.ofString "orders" then some (.ref D) else none) ∧ (D, listOf vs.toArray kx) ∈ nw ∧ RowsAre nw vs (ordersF i) ∧ (∀ p ∈ (L1 + 1 + 1 + 1, o1) :: (L1 + 1, o3) :: news, p ∈ nw), ⟨lb, _, _, rfl, List.mem_cons_self, .cons (us := []) (List.mem_cons_of_mem _ List.mem_cons_self) .nil .nil, ?_⟩, ?_, ?_⟩
  · exact fun p hp => List.mem_cons_of_mem _ (List.mem_cons_of_mem _ hp)
  · intro i m nw it oX t h tk E' hi hj hit hX F N nXI oI oX1
    obtain ⟨D, vs, kx, rfl, hD, hrows, hbase⟩ := hj
    clear FE FD ND FD0 ND0
    try k_fold
    refine wpAny_execs_cons ?_
    k_dflt (refine Assign_two (h₀ := g) (m := fun y => if y = Str.ofString "orders" then some (.ref D) else none) (by k_asm) (by rfl) (by with_unfolding_all rfl) (by with_unfolding_all rfl) (by decide) (by rfl) (by decide) (by rfl) (by rfl) (by decide) (by rfl) (by rfl) ?_)
    repeat ((fail_if_success (with_reducible show SrcT _ _ _ _ _ _ _ _ _ _ _ _ _ _ _ _ _)); (first | (k_unfold; (try dsimp only)) | walk1))
    have hvl : vs.length ≤ 24 := by rw [hrows.length]; exact orders_len (by omega)
    refine ⟨D, vs, kx, i + 1, fun a j ys nw' => RowsAre nw' ys (((ordersF i).take a).flatMap (rowsOf i) ++ (List.range j).map (insAt (i : Int) ((ordersF i).getD a []))) ∧ j ≤ i + 1 ∧ (∀ p ∈ (I, it) :: (L1 + 1 + 1, oX) :: nw, p ∈ nw'), (I, it) :: (L1 + 1 + 1, oX) :: nw, rfl, rfl, by k_dflt k_asm, by k_dflt k_asm, by rw [PySem.sizeLine_eq]; omega, by omega, ?_, ⟨.nil, Nat.zero_le _, fun _ hp => hp⟩, ?_, ?_⟩
    · rintro a j ys nw' ⟨hr, hj, hb⟩
      refine ⟨hb _ (List.mem_cons_of_mem _ (List.mem_cons_of_mem _ hD)), ?_⟩
      rw [hr.length, PySem.sizeLine_eq]
      exact Nat.lt_of_lt_of_le (rows_len (by omega) hj) (by decide)
    · rintro a ys nw' ha ⟨hr, hj, hb⟩
      refine ⟨?_, Nat.zero_le _, hb⟩
      rw [List.range_zero, List.map_nil, ← rows_step (by rw [← hrows.length]; exact ha)]
      exact hr
    rintro s₂ ⟨h8, rfl⟩
    refine ⟨?_, ?_, ?_⟩
    · intro a v ys nw' I1 oI1 C oC D9 m₂ h7 tk7 E7 hv hJ7 hC7 hx7 F7 N7 off7 ne7
      have hXm : (L1 + 1 + 1, oX) ∈ nw' := hJ7.2.2 _ (List.mem_cons_of_mem _ List.mem_cons_self)
      k_steps
      all_goals assumption
    · intro a j v t2 ys nw' I2 oI2 I1 oI1 C oC D9 m₂ h7 tk7 E7 hv hjc hJ7 hC7 hx7 hx27 F7 N7 off71 off73 ne71 ne72
      obtain ⟨hr7, hj7, hb7⟩ := hJ7
      obtain ⟨ad, us, kn, xs, rfl, hxs, hm7, hi7⟩ := hrows.at a v hv
      have hXm : (L1 + 1 + 1, oX) ∈ nw' := hb7 _ (List.mem_cons_of_mem _ List.mem_cons_self)
      have hm8 : (ad, listOf us.toArray kn) ∈ nw' := hb7 _ (List.mem_cons_of_mem _ (List.mem_cons_of_mem _ hm7))
      have hxl : xs.length = i := orders_rows (by omega) xs (List.mem_of_getElem? hxs)
      have hj0 : (0 : Int) ≤ (j : Int) := Int.natCast_nonneg j
      repeat ((fail_if_success (with_reducible show wpAny _ _ (subscriptTail _ _ (Value.ref _) (Value.ref _)) _ _ _)); (first | (k_unfold; (try dsimp only)) | walk1))
      have hz7 : us.toArray.size ≤ sizeLine := by rw [List.size_toArray, hi7.length, hxl, PySem.sizeLine_eq]; omega
      k_dflt (refine kmk_slice_ints F7 N7 (News.isList N7 (by kcf_m)) IsPart.none (IsPart.int _ _) hi7 (kmk_upto hi7 hj0) (List.length_take ..) ?_ (by with_unfolding_all rfl) (by kmk_pure) hz7)
      intro D1 ws1 h10 F10 N10 l10 hI10 _ _
      dsimp only
      repeat ((fail_if_success (with_reducible show wpAny _ _ (binaryOp _ (Value.ref _) (Value.ref _)) _ _ _)); (first | (k_unfold; (try dsimp only)) | walk1))
      rename_i _ _ Dn h11 F11 N11 l11
      have sz1 : (xs.take (j : Int).toNat).length + [(i : Int)].length ≤ sizeLine := by
        have := List.length_take_le (j : Int).toNat xs
        have e : [(i : Int)].length = 1 := rfl
        rw [PySem.sizeLine_eq]; omega
      have nz0 : Fr g L1 h11 (fun y => if y = Str.ofString "orders" then some (.ref D) else none) := F11
      k_dflt (refine kmk_add_ints (ws := [Value.int (i : Int) _]) F11 N11 (News.isList N11 (by kcf_m)) (News.isList N11 (by kcf_m)) hI10 (IntsAre.cons _ _ .nil) ?_ sz1)
      intro D2 ws2 h12 F12 N12 l12 hI12
      dsimp only
      repeat ((fail_if_success (with_reducible show wpAny _ _ (subscriptTail _ _ (Value.ref _) (Value.ref _)) _ _ _)); (first | (k_unfold; (try dsimp only)) | walk1))
      k_dflt (refine kmk_slice_ints F12 N12 (News.isList N12 (by kcf_m)) (IsPart.int _ _) IsPart.none hi7 (kmk_from hi7 hj0) (List.length_drop ..) ?_ (by with_unfolding_all rfl) (by kmk_pure) hz7)
      intro D3 ws3 h13 F13 N13 l13 hI13 _ _
      have sz2 : (xs.take (j : Int).toNat ++ [(i : Int)]).length + (xs.drop (j : Int).toNat).length ≤ sizeLine := by
        rw [List.length_append, List.length_drop]
        have := List.length_take_le (j : Int).toNat xs
        have e : [(i : Int)].length = 1 := rfl
        rw [PySem.sizeLine_eq]; omega
      dsimp only
      repeat ((fail_if_success (with_reducible show wpAny _ _ (binaryOp _ (Value.ref _) (Value.ref _)) _ _ _)); (first | (k_unfold; (try dsimp only)) | walk1))
      k_dflt (refine kmk_add_ints F13 N13 (News.isList N13 (by kcf_m)) (News.isList N13 (by kcf_m)) hI12 hI13 ?_ sz2)
      intro D4 ws4 h14 F14 N14 l14 hI14
      have hge : (ordersF i).getD a [] = xs := by rw [List.getD_eq_getElem?_getD, hxs]; rfl
      refine ⟨_, _, (D4, listOf ws4.toArray 0) :: nw', rfl, F14, cb_drop N14 (by kcf_all), ⟨Nat.ne_of_gt (l14 (I2, oI2) (by kcf_m)), off71⟩, ⟨⟨Nat.ne_of_gt (l14 (I1, oI1) (by kcf_m)), Nat.ne_of_gt (l14 (C, oC) (by kcf_m)), Nat.ne_of_gt (l14 (D9, LCg.lst ys) (by kcf_m))⟩, off73⟩, ?_, hjc, fun p hp => List.mem_cons_of_mem _ (hb7 p hp)⟩
      rw [rows_more]
      refine RowsAre.append (hr7.mono fun _ _ _ q => List.mem_cons_of_mem _ q) (.cons List.mem_cons_self ?_ .nil)
      rw [hge]; exact hI14
    · intro Dn h tk ys news' hJn Fn Nn on
      obtain ⟨hrn, _, hbn⟩ := hJn
      have hIn : (I, it) ∈ news' := hbn _ List.mem_cons_self
      have hXn : (L1 + 1 + 1, oX) ∈ news' := hbn _ (List.mem_cons_of_mem _ List.mem_cons_self)
      have onm := Off1.mem on
      have hrn2 : RowsAre news' ys (ordersF (i + 1)) := by
        have e : ((ordersF i).take vs.length).flatMap (rowsOf i) ++ (List.range 0).map (insAt (i : Int) ((ordersF i).getD vs.length [])) = ordersF (i + 1) := by
          rw [hrows.length, List.take_length, List.range_zero, List.map_nil, List.append_nil]; rfl
        rw [← e]; exact hrn
      have Nn' : News g L1 h news' := fun p hp => Nn p (List.mem_cons_of_mem _ hp)
      have hDI : @Ne Nat Dn I := Ne.symm (onm _ hIn)
      have hDX : @Ne Nat Dn (L1 + 1 + 1) := Ne.symm (onm _ hXn)
      have nwI := Off1.mem oI
      have nwX := Off1.mem oX1
      have key := rows_keep (kd := ys.length) (D := Dn) hrn2 Nn' hIn hXn hit hX
      k_steps
      refine ⟨rfl, _, _, _, (Dn, listOf ys.toArray ys.length) :: but2 I (L1 + 1 + 1) news', rfl, fr_toF (m' := fun y => if y = Str.ofString "orders" then some (.ref Dn) else none) Fn (fun y => ?_), ?_, ⟨hDI, but2_off1⟩, ⟨hDX, but2_off2⟩, Dn, ys, ys.length, rfl, List.mem_cons_self, key, ?_⟩
      · by_cases a1 : y = Str.ofString "orders"
        · subst a1; rfl
        · simp only [if_neg a1]
      · intro p hp
        rcases List.mem_cons.mp hp with rfl | hp
        · exact Nn' _ hIn
        rcases List.mem_cons.mp hp with rfl | hp
        · exact Nn' _ hXn
        rcases List.mem_cons.mp hp with rfl | hp
        · exact Nn _ List.mem_cons_self
        · exact Nn' _ (but2_sub hp)
      · intro p hp
        have q := hbase p hp
        exact List.mem_cons_of_mem _ (but2_mem (hbn _ (List.mem_cons_of_mem _ (List.mem_cons_of_mem _ q))) (nwI p q) (nwX p q))
  · intro m nw h tk oX v hJn dX Fn Nn onX
    obtain ⟨D, vs, kx, rfl, hD, hrows, hbase⟩ := hJn
    clear FE FD ND FD0 ND0
    k_unmd
    dsimp only [qk]
    try k_fold
    repeat ((fail_if_success (with_reducible show SrcX _ _ _ _ _ _ _ _ _ _ _ _ _ _)); (first | (k_unfold; (try dsimp only)) | walk1))
    have hvl : vs.length ≤ 24 := by rw [hrows.length]; exact orders_len hk4
    have hvs : vs.toArray.size ≤ sizeLine := by rw [List.size_toArray, PySem.sizeLine_eq]; omega
    refine Or.inl ⟨D, vs.toArray, (L1 + 1 + 1, oX) :: nw, (fun i => fallsI k ((ordersF k).getD i [])), rfl, ?_, Fn, Nn, ?_, hvs, ?_⟩
    · rfl
    · exact .inr ⟨_, List.mem_cons_of_mem _ hD, rfl, _, rfl⟩
    rintro _ ⟨h9, rfl⟩
    refine ⟨?_, ?_⟩
    · intro i v I1 oI1 C oC D9 Xc oXc m₂ ys h2 tk2 E2 hi9 hv hC hXc F2 N2 off2 ne2 off1
      rw [List.getElem?_toArray] at hv
      obtain ⟨ad, us, kn, xs, rfl, hxs, hm7, hi7⟩ := hrows.at i v hv
      have hxl : xs.length = k := orders_rows hk4 xs (List.mem_of_getElem? hxs)
      have hsz : (L1 + 1, o3) ∈ nw := hbase _ (List.mem_cons_of_mem _ List.mem_cons_self)
      try k_fold
      repeat ((fail_if_success (with_reducible show wpAny _ _ (eval (Expr.ListComp _ _ _ _) _) _ _ _)); (first | (k_unfold; (try dsimp only)) | walk1))
      k_dflt (refine LCt.ListComp_T (F₀ := F2) (by with_unfolding_all rfl) (by decide) (by rfl) (by decide) (by rfl) ?_)
      repeat ((fail_if_success (with_reducible show LCt.CompSrcT _ _ _ _ _ _ _ _ _ _ _ _ _ _ _)); (first | (k_unfold; (try dsimp only)) | walk1))
      rename_i hr9 tk9 t9 u9 v9 rng FR NR kR
      clear kR
      refine LCt.CompSrcT.range (by rfl) FR NR rng (small_one (by omega) (by omega) (by omega) (by omega)) (n := k - 1) (range_from1 hk4) (by rw [PySem.sizeLine_eq]; omega) ?_
      intro g'
      clear FR NR
      refine rest_ones (fun j => decide (xs.getD (j + 1) 0 < xs.getD j 0)) (k - 1) ?_ ?_ (k - 1) 0 [] [] (by omega) .nil ?_
      · intro j v I3 oI3 C3 oC3 D3 m₃ ys3 h3 tk3 E3 hj3 hv3 hC3 hx3 F3 N3 off3 ne3
        obtain ⟨tv, rfl⟩ := hv3
        have a1 : (0 : Int) ≤ 1 + (j : Int) := by omega
        have a2 : 1 + (j : Int) < xs.length := by omega
        have a3 : 1 + (j : Int) < 2 ^ 63 := by omega
        have a4 : (0 : Int) ≤ 1 + (j : Int) - 1 := by omega
        have a5 : 1 + (j : Int) - 1 < xs.length := by omega
        have a6 : 1 + (j : Int) - 1 < 2 ^ 63 := by omega
        (try clear F2 N2); (try clear Fn); (try clear Nn)
        try k_fold
        k_steps
        · rw [show (1 + (j : Int)).toNat = j + 1 by omega, show (1 + (j : Int) - 1).toNat = j by omega]
        · exact ⟨_, _, rfl, F3, N3⟩
      · intro C3 h3 tk3 E3
        try k_fold
        k_steps
      · intro zs hz D3 h3 tk3 F3 N3 off3
        try k_fold
        k_steps
        have hge : (ordersF k).getD i [] = xs := by rw [List.getD_eq_getElem?_getD, hxs]; rfl
        exact kcf_el (by rw [hge, List.nil_append, sum_ones]; rfl) rfl rfl
    · intro Df ys hf tkf hys Ff Nf oF
      have hb1 : (L1 + 1 + 1 + 1, o1) ∈ nw := hbase _ List.mem_cons_self
      have hb3 : (L1 + 1, o3) ∈ nw := hbase _ (List.mem_cons_of_mem _ List.mem_cons_self)
      have oFm := Off1.mem oF
      have oD1 : @Ne Nat Df (L1 + 1 + 1 + 1) := Ne.symm (oFm _ (List.mem_cons_of_mem _ hb1))
      have oD3 : @Ne Nat Df (L1 + 1) := Ne.symm (oFm _ (List.mem_cons_of_mem _ hb3))
      have oN : ∀ p ∈ news, p.1 ≠ L1 + 1 + 1 + 1 := fun p hp => off p hp _ (List.mem_cons_of_mem _ (List.mem_cons_of_mem _ List.mem_cons_self))
      have Nf2 : News g L1 hf ((Df, listOf ys.toArray ys.length) :: (L1 + 1 + 1 + 1, o1) :: (L1 + 1, o3) :: news) := fun p hp => by
        rcases List.mem_cons.mp hp with rfl | hp
        · exact Nf _ List.mem_cons_self
        · exact Nf _ (List.mem_cons_of_mem _ (List.mem_cons_of_mem _ (hbase p hp)))
      clear Nf Nn Fn
      try k_fold
      k_dflt (refine storeX_C Ff Nf2 (by rfl) (UpdF.tail oD1 (UpdF.head (fun p hp => ?_))) d1 ?_ (by rfl) (by rfl))
      · rcases List.mem_cons.mp hp with rfl | hp
        · exact fun e => absurd (Nat.add_left_cancel (show L1 + 1 = L1 + 3 from e)) (by decide)
        · exact oN p hp
      intro h4 oc F4 N4 dc
      (try dsimp only at N4)
      clear Ff Nf2
      try k_fold
      k_steps
      rename Fr h₀ L _ _ => Fz
      rename News h₀ L _ _ => Nz
      refine ret _ _ _ _ _ ?_ Fz (cb_drop Nz (by kcf_all))
      rename IntsAre _ (List.map (fun k' => ((List.count k' _ : Nat) : Int)) _) => hz
      have e : vs.toArray.size = (ordersF k).length := by rw [List.size_toArray, hrows.length]
      rw [e, Int.sub_zero, Int.toNat_natCast] at hz
      exact hz
end Mine
end
section
open PySem PySem.W PyProof.Rows PySem.Calls
set_option maxRecDepth 100000
namespace Mine
local macro_rules | `(tactic| k_mem) => `(tactic| kcf_m)
local macro_rules | `(tactic| walk_at "call ref") => `(tactic| (k_here; (with_reducible show wpAny _ _ (call (Value.ref 59) [Value.ref _, Value.int _ _]) _ _ _); k_dflt (refine' car_c _ _ _ _ _ _ _ _ _ _ _ _ _ _ _ _ _ _ ?mycB ?mycF ?mycX ?mycT ?mycK _ _ _ _ _ _ ?mycN ?myci ?mycw ?mycd ?myce ?mycu ?_; (case mycB => k_asm); (case mycF => k_asm); (case mycX => k_asm); (case mycT => k_asm); (case mycK => first | exact rfl | assumption); (case mycN => k_asm); (case myci => assumption); (case mycw => assumption); (case mycd => assumption); (case myce => ktr_room); (case mycu => ktr_units); intro us' c' n' h' tk' hi' F' N'; (try dsimp only)); (try k_sweep)))
local macro_rules | `(tactic| walk_at "binaryOp Pow int int") => `(tactic| (k_here; k_dflt ((with_reducible refine pow_int_small ?myp1 ?myp2 ?myp3 ?_); (case myp1 => assumption); (case myp2 => assumption); (case myp3 => assumption)); (try dsimp only)))
def walkF (ws : List Int) (zs : List Int) : List Int := zs.foldl (fun ws z => carry (2 ^ z.toNat) ws) ws
theorem carry_len (d : Int) (ws : List Int) : (carry d ws).length = ws.length := carF_len ..
theorem look2 {y a b : Str} {u v : Value} : List.lookup y [(a, u), (b, v)] = if y = a then some u else if y = b then some v else none := by
  simp only [List.lookup]
  by_cases h : y = a
  · rw [beq_iff_eq.mpr h, if_pos h]
  · rw [beq_eq_false_iff_ne.mpr h, if_neg h]
    by_cases h2 : y = b
    · rw [beq_iff_eq.mpr h2, if_pos h2]
    · rw [beq_eq_false_iff_ne.mpr h2, if_neg h2]
set_option maxHeartbeats 2000000 in
theorem wal_c {w : World} {mean : ExcName → Option Value} {mg mb : Str → Option Value} (dp un : Nat) (gd : Option (List Code)) (cn : Str) (cs : Scope) (a : Addr) (ccd : Value) (cl : List (Str × Addr)) (outer : List Env) (A₀ : Around) (base h₀ : Heap) (L : Addr) (m : Str → Option Value) (news : List (Addr × Obj)) (s : Shared) (Q E : Value → Shared → Prop)
    (B : Below A₀ base outer h₀) (F : Fr h₀ L s.heap m) (X : (Mine.hd.heap_39 w.params).In h₀) (T : Top Mine.hd.view_39 (looseW Mine.hd.view_39 []) mean mg mb h₀) (hk : cs.kind = .function)
    (l ls : Addr) (vs zs : List Value) (ws sz : List Int) (n nz : Nat) (N : News h₀ L s.heap ((l, listOf vs.toArray n) :: (ls, listOf zs.toArray nz) :: news)) (hi : IntsAre vs ws) (hz : IntsAre zs sz) (hws : ws.length ≤ 4) (hsz : ∀ z ∈ sz, z = 1 ∨ z = 2 ∨ z = 3) (hd : dp + 5 < recursionLimit) (hu : un + 60 < cLine)
    (ret : ∀ (us : List Value) (c : Addr) (n : Nat) (h' : Heap) (tk' : Nat), IntsAre us (walkF ws sz) → Fr h₀ L h' m → News h₀ L h' ((c, listOf us.toArray n) :: news) → Q (.ref c) { s with heap := h', toks := tk' }) :
    wpAny (model PySem.Challenge.rw_to0002_01.row.prog w) (ktrTop dp un gd cn cs L a ccd cl outer) (call (.ref 66) [.ref l, .ref ls]) Q E s := by
  w_top off
  revert X; k_fill; intro X
  refine wpAny_call ?_
  k_dflt cell_enter
  repeat ((fail_if_success (with_reducible show wpAny _ _ (exec (Stmt.For _ _ _ _ _) _) _ _ _)); (first | (k_unfold; (try dsimp only)) | walk1))
  rename_i g L1 h1 FG F1 N1 B1 X1 T1
  have F2 := fr_to (m' := fun y => if y = Str.ofString "size" then none else if y = Str.ofString "weights" then some (.ref l) else if y = Str.ofString "sizes" then some (.ref ls) else none) F1 (fun y => by
    refine (look2 (a := Str.ofString "sizes") (b := Str.ofString "weights") (u := Value.ref ls) (v := Value.ref l)).trans ?_
    by_cases a3 : y = Str.ofString "size"
    · subst a3; rfl
    by_cases a1 : y = Str.ofString "weights"
    · subst a1; rfl
    simp only [if_neg a1, if_neg a3])
  clear F1
  try k_fold
  with_unfolding_all refine' For_invVF F2 ?k1 ?k2 ?_
  case k1 => exact rfl
  case k2 => exact rfl
  repeat ((fail_if_success (with_reducible show wpAny _ _ (pyIter (Value.ref _)) _ _ _)); (first | (k_unfold; (try dsimp only)) | walk1))
  with_unfolding_all refine iter_listUnr (by rfl) F2 N1 (by kcf_m) rfl rfl ?_
  intro I hI
  have hls : @Ne Nat ls I := Nat.ne_of_lt (hI _ (List.mem_cons_of_mem _ List.mem_cons_self))
  have hl1 : @Ne Nat l I := Nat.ne_of_lt (hI _ List.mem_cons_self)
  have hIn : ∀ p ∈ news, p.1 ≠ I := fun p hp => Nat.ne_of_lt (hI p (List.mem_cons_of_mem _ (List.mem_cons_of_mem _ hp)))
  clear hI
  refine list_inv (fun r m' n' => ∃ (v : Option Value) (c : Addr) (k : Nat) (us : List Value) (xs rs : List Int), (m' = fun y => if y = Str.ofString "size" then v else if y = Str.ofString "weights" then some (Value.ref c) else if y = Str.ofString "sizes" then some (.ref ls) else none) ∧ n' = (c, listOf us.toArray k) :: (ls, listOf zs.toArray nz) :: news ∧ IntsAre us xs ∧ xs.length = ws.length ∧ IntsAre r rs ∧ (∀ z ∈ rs, z = 1 ∨ z = 2 ∨ z = 3) ∧ walkF xs rs = walkF ws sz ∧ @Ne Nat c I) ?_ ?_ _ _ _ ?_
  · rintro v r m' n' it h tk ⟨v', c, k, us, xs, rs, rfl, rfl, hus, hxl, hrs, hr3, hw, hcI⟩ hit F4 N4
    rw [ifif] at F4
    cases hrs with
    | cons z t hrs' =>
    rename_i rs'
    have hx4 : xs.length ≤ 4 := by omega
    have hz3 := hr3 z List.mem_cons_self
    have hz0 : 0 ≤ z := by omega
    have hz6 : z ≤ 1000000 := by omega
    have hb2 : (2 : Int).natAbs < 2 ^ 64 := by decide
    have hdd : (2 : Int) ^ z.toNat = 2 ∨ (2 : Int) ^ z.toNat = 4 ∨ (2 : Int) ^ z.toNat = 8 := by
      rcases hz3 with rfl | rfl | rfl <;> decide
    have N5 : News g L1 h ((c, listOf us.toArray k) :: (I, it) :: (ls, listOf zs.toArray nz) :: news) := cb_drop N4 (by kcf_all)
    clear F2 N1 N4
    try k_fold
    k_steps
    rename_i us2 c2 n2 h5 tk5 hi5 h6 F6 N6
    have hcI2 : @Ne Nat c2 I := ne_of_cls N6 List.mem_cons_self (List.mem_cons_of_mem _ List.mem_cons_self) fun e => by
      rw [← e] at hit
      have hs : ("list" : String) = "list_iterator" := Value.type.inj hit
      exact absurd hs (by decide)
    refine UnrEnd.intro (fr_to F6 (m' := fun y => if y = Str.ofString "size" then some (.int z t) else if y = Str.ofString "weights" then some (.ref c2) else if y = Str.ofString "sizes" then some (.ref ls) else none) (fun y => ?_)) N6 ((c2, listOf us2.toArray n2) :: (ls, listOf zs.toArray nz) :: news) (by kcf_all) (fun p hp => ?_) ⟨List.mem_cons_of_mem _ List.mem_cons_self, _, c2, n2, us2, _, rs', rfl, rfl, hi5, ?_, hrs', fun q hq => hr3 q (List.mem_cons_of_mem _ hq), ?_, hcI2⟩
    · by_cases a3 : y = Str.ofString "size"
      · subst a3; rfl
      by_cases a1 : y = Str.ofString "weights"
      · subst a1; rfl
      simp only [if_neg a1, if_neg a3]
    · rcases List.mem_cons.mp hp with rfl | hp
      · exact hcI2
      rcases List.mem_cons.mp hp with rfl | hp
      · exact hls
      · exact hIn p hp
    · rw [carry_len]; exact hxl
    · rw [← hw]; rfl
  · rintro m' n' h tk ⟨v', c, k, us, xs, rs, rfl, rfl, hus, hxl, hrs, hr3, hw, hcI⟩ F4 N4
    cases hrs
    clear F2 N1
    k_unmd
    dsimp only [qk]
    k_steps
    rename Fr h₀ L _ _ => Fz
    rename News h₀ L _ _ => Nz
    exact ret _ _ _ _ _ (by rw [← hw]; exact hus) Fz (cb_drop Nz (by kcf_all))
  · exact ⟨none, l, n, vs, ws, sz, rfl, rfl, hi, rfl, hz, hsz, rfl, hl1⟩
end Mine
end
section
open PySem PySem.W PyProof.Rows PySem.Calls
set_option maxRecDepth 100000
namespace Mine
/-- four coefficients -/
abbrev Row4 := Int × Int × Int × Int
def radd (r s : Row4) : Row4 := (r.1 + s.1, r.2.1 + s.2.1, r.2.2.1 + s.2.2.1, r.2.2.2 + s.2.2.2)
def rsub (r s : Row4) : Row4 := (r.1 - s.1, r.2.1 - s.2.1, r.2.2.1 - s.2.2.1, r.2.2.2 - s.2.2.2)
def rzero : Row4 := (0, 0, 0, 0)
def ev (c r : Row4) : Int := r.1 * c.1 + (r.2.1 * c.2.1 + (r.2.2.1 * c.2.2.1 + r.2.2.2 * c.2.2.2))
def scaleR (b : Int) (r : Row4) : Row4 := (b ^ 1 * r.1, b ^ 2 * r.2.1, b ^ 3 * r.2.2.1, b ^ 4 * r.2.2.2)
theorem ev_add (c r s : Row4) : ev c (radd r s) = ev c r + ev c s := by
  simp only [ev, radd, Int.add_mul]; omega
theorem ev_sub (c r s : Row4) : ev c (rsub r s) = ev c r - ev c s := by
  simp only [ev, rsub, Int.sub_mul]; omega
theorem ev_zero (c : Row4) : ev c rzero = 0 := by
  simp only [ev, rzero, Int.zero_mul]; rfl
def rsum : List Row4 → Row4
  | [] => rzero
  | r :: l => radd r (rsum l)
theorem sum_ev (c : Row4) : ∀ l : List Row4, (l.map (ev c)).sum = ev c (rsum l)
  | [] => (ev_zero c).symm
  | r :: l => by rw [List.map_cons, List.sum_cons, sum_ev c l, rsum, ev_add]
def winR (d : Int) (xs : List Row4) (k : Int) : Row4 := rsum ((xs.drop (k - d + 1).toNat).take ((k + 1).toNat - (k - d + 1).toNat))
theorem win_ev (c : Row4) (d : Int) (xs : List Row4) (k : Int) : win d (xs.map (ev c)) k = ev c (winR d xs k) := by
  unfold win winR
  rw [← sum_ev, List.map_take, List.map_drop]
def spreadR (d : Int) (xs : List Row4) : List Row4 := (rangeKs 0 (xs.length + d - 1).toNat).map (winR d xs)
theorem spread_ev (c : Row4) (d : Int) (xs : List Row4) : spreadF d (xs.map (ev c)) = (spreadR d xs).map (ev c) := by
  unfold spreadF spreadR
  rw [List.length_map, List.map_map]
  exact List.map_congr_left fun k _ => win_ev c d xs k
theorem iter_ev (c : Row4) (d : Int) (xs : List Row4) : ∀ n, iter n (spreadF d) (xs.map (ev c)) = (iter n (spreadR d) xs).map (ev c)
  | 0 => rfl
  | n + 1 => by
    show spreadF d (iter n (spreadF d) (xs.map (ev c))) = (spreadR d (iter n (spreadR d) xs)).map (ev c)
    rw [iter_ev c d xs n, spread_ev]
theorem getD_ev (c : Row4) (xs : List Row4) (i : Nat) : (xs.map (ev c)).getD i 0 = ev c (xs.getD i rzero) := by
  rw [List.getD_eq_getElem?_getD, List.getD_eq_getElem?_getD, List.getElem?_map]
  cases xs[i]? with
  | none => exact (ev_zero c).symm
  | some r => rfl
def carR (d : Int) (xs : List Row4) (n : Nat) : Nat → List Row4
  | 0 => List.replicate n rzero
  | i + 1 => (carR d xs n i).set (i / d.toNat) (radd ((carR d xs n i).getD (i / d.toNat) rzero) (xs.getD i rzero))
theorem car_ev (c : Row4) (d : Int) (xs : List Row4) (n : Nat) : ∀ i, carF d (xs.map (ev c)) n i = (carR d xs n i).map (ev c)
  | 0 => by
    show List.replicate n 0 = (List.replicate n rzero).map (ev c)
    rw [List.map_replicate, ev_zero]
  | i + 1 => by
    show (carF d (xs.map (ev c)) n i).set _ _ = ((carR d xs n i).set _ _).map (ev c)
    rw [car_ev c d xs n i, List.map_set, getD_ev, getD_ev, ev_add]
def carryR (d : Int) (ws : List Row4) : List Row4 := carR d (iter ws.length (spreadR d) ws) ws.length (iter ws.length (spreadR d) ws).length
theorem carry_ev (c : Row4) (d : Int) (ws : List Row4) : carry d (ws.map (ev c)) = (carryR d ws).map (ev c) := by
  unfold carry carryR
  rw [List.length_map, iter_ev, List.length_map, car_ev]
def diffR (n : Nat) (zs : List Row4) : List Row4 := (rangeKs 0 n).map fun k => rsub (zs.getD k.toNat rzero) (if k > 0 then zs.getD (k - 1).toNat rzero else rzero)
theorem diff_ev (c : Row4) (n : Nat) (zs : List Row4) : diffF n (zs.map (ev c)) = (diffR n zs).map (ev c) := by
  unfold diffF diffR
  rw [List.map_map]
  refine List.map_congr_left fun k _ => ?_
  show diffV (zs.map (ev c)) k = ev c (rsub _ _)
  unfold diffV
  rw [ev_sub, getD_ev, getD_ev]
  split
  · rfl
  · rw [ev_zero]
theorem iterW_ev (c : Row4) (n : Nat) (zs : List Row4) : ∀ j, iterW j (diffF n) (zs.map (ev c)) = (iterW j (diffR n) zs).map (ev c)
  | 0 => rfl
  | j + 1 => by
    show diffF n (iterW j (diffF n) (zs.map (ev c))) = (diffR n (iterW j (diffR n) zs)).map (ev c)
    rw [iterW_ev c n zs j, diff_ev]
def baseR (n : Nat) : List Row4 := (List.range n).map fun i : Nat => (((1 + (i : Int)) ^ 1), ((1 + (i : Int)) ^ 2), (if n > 2 then (1 + (i : Int)) ^ 3 else 0), (if n > 3 then (1 + (i : Int)) ^ 4 else 0))
def WR (n : Nat) : List Row4 := iterW (n + 1) (diffR n) (baseR n)
def cof (ps : List Int) (w : Int) : Row4 := (ps.getD 0 0 * w ^ 1, ps.getD 1 0 * w ^ 2, ps.getD 2 0 * w ^ 3, ps.getD 3 0 * w ^ 4)
theorem mono_ev (p w x : Int) (k : Nat) : p * (w * x) ^ k = x ^ k * (p * w ^ k) := by
  rw [Int.mul_pow, Int.mul_left_comm, Int.mul_comm p, Int.mul_left_comm, Int.mul_comm (w ^ k), Int.mul_comm p]
theorem check_all : (∀ n ∈ [2, 3, 4], ∀ b ∈ [(2 : Int), 4, 8], carryR b (WR n) = (WR n).map (scaleR b)) := by decide +kernel
theorem row_ev (ps : List Int) (w : Int) (h : 2 ≤ ps.length ∧ ps.length ≤ 4) (x : Int) : rowV ps w x = ev (cof ps w) (x ^ 1, x ^ 2, (if ps.length > 2 then x ^ 3 else 0), (if ps.length > 3 then x ^ 4 else 0)) := by
  match ps, h with
  | [a, b], _ =>
    show a * (w * x) ^ 1 + (b * (w * x) ^ 2 + 0) = x ^ 1 * (a * w ^ 1) + (x ^ 2 * (b * w ^ 2) + (0 * (0 * w ^ 3) + 0 * (0 * w ^ 4)))
    rw [mono_ev, mono_ev, Int.zero_mul, Int.zero_mul]; rfl
  | [a, b, c], _ =>
    show a * (w * x) ^ 1 + (b * (w * x) ^ 2 + (c * (w * x) ^ 3 + 0)) = x ^ 1 * (a * w ^ 1) + (x ^ 2 * (b * w ^ 2) + (x ^ 3 * (c * w ^ 3) + 0 * (0 * w ^ 4)))
    rw [mono_ev, mono_ev, mono_ev, Int.zero_mul]
  | [a, b, c, d], _ =>
    show a * (w * x) ^ 1 + (b * (w * x) ^ 2 + (c * (w * x) ^ 3 + (d * (w * x) ^ 4 + 0))) = x ^ 1 * (a * w ^ 1) + (x ^ 2 * (b * w ^ 2) + (x ^ 3 * (c * w ^ 3) + x ^ 4 * (d * w ^ 4)))
    rw [mono_ev, mono_ev, mono_ev, mono_ev, Int.add_zero]
  | [], h => exact absurd h.1 (by decide)
  | [_], h => exact absurd h.1 (by simp)
  | _ :: _ :: _ :: _ :: _ :: _, h => exact absurd h.2 (by simp)
theorem weights_eq (ps : List Int) (w : Int) (h : 2 ≤ ps.length ∧ ps.length ≤ 4) : weights ps w = (WR ps.length).map (ev (cof ps w)) := by
  unfold weights WR
  rw [← iterW_ev]
  congr 1
  unfold baseR
  rw [List.map_map]
  exact List.map_congr_left fun i _ => row_ev ps w h _
theorem ev_scale (ps : List Int) (w b : Int) (r : Row4) : ev (cof ps w) (scaleR b r) = ev (cof ps (w * b)) r := by
  simp only [ev, cof, scaleR, Int.mul_pow]
  have e : ∀ B r p W : Int, B * r * (p * W) = r * (p * (W * B)) := fun B r p W => by
    rw [Int.mul_comm B r, Int.mul_assoc, Int.mul_left_comm B, Int.mul_comm B]
  rw [e, e, e, e]
theorem carry_weights (ps : List Int) (w b : Int) (h : 2 ≤ ps.length ∧ ps.length ≤ 4) (hb : b = 2 ∨ b = 4 ∨ b = 8) : carry b (weights ps w) = weights ps (w * b) := by
  rw [weights_eq ps w h, weights_eq ps (w * b) h, carry_ev]
  have hn : ps.length ∈ [2, 3, 4] := by
    have : ps.length = 2 ∨ ps.length = 3 ∨ ps.length = 4 := by omega
    simpa using this
  have hb' : b ∈ [(2 : Int), 4, 8] := by simpa using hb
  rw [check_all _ hn _ hb', List.map_map]
  exact List.map_congr_left fun r _ => ev_scale ps w b r
theorem walk_weights (ps : List Int) (h : 2 ≤ ps.length ∧ ps.length ≤ 4) : ∀ (dz : List Int) (w : Int), (∀ z ∈ dz, z = 1 ∨ z = 2 ∨ z = 3) → 0 ≤ dz.sum ∧ walkF (weights ps w) dz = weights ps (w * 2 ^ dz.sum.toNat)
  | [], w, _ => ⟨Int.le_refl 0, by
    show weights ps w = weights ps (w * 2 ^ 0)
    rw [Int.pow_zero, Int.mul_one]⟩
  | z :: r, w, hz => by
    have h1 := hz z List.mem_cons_self
    have ih := walk_weights ps h r (w * 2 ^ z.toNat) fun q hq => hz q (List.mem_cons_of_mem _ hq)
    have hb : (2 : Int) ^ z.toNat = 2 ∨ (2 : Int) ^ z.toNat = 4 ∨ (2 : Int) ^ z.toNat = 8 := by
      rcases h1 with rfl | rfl | rfl <;> decide
    refine ⟨by rw [List.sum_cons]; have := ih.1; omega, ?_⟩
    show walkF (carry (2 ^ z.toNat) (weights ps w)) r = _
    rw [carry_weights ps w _ h hb, ih.2, List.sum_cons]
    have e : (z + r.sum).toNat = z.toNat + r.sum.toNat := by have := ih.1; omega
    rw [e, Int.pow_add, Int.mul_assoc]
theorem weights_law (ps : List Int) (h : 2 ≤ ps.length ∧ ps.length ≤ 4) (dz : List Int) (hz : ∀ z ∈ dz, z = 1 ∨ z = 2 ∨ z = 3) : walkF (weights ps 1) dz = weights ps (2 ^ dz.sum.toNat) := by
  rw [(walk_weights ps h dz 1 hz).2, Int.one_mul]
theorem weights_len (ps : List Int) (w : Int) : (weights ps w).length = ps.length := by
  show (diffF ps.length _).length = _
  unfold diffF
  rw [List.length_map, rangeKs_length]
theorem falls_law {k : Nat} (h2 : 2 ≤ k) (h4 : k ≤ 4) : carry 2 (fallsF k) = (fallsF k).map fun c => 2 ^ Int.toNat (k : Int) * c := by
  have : k = 2 ∨ k = 3 ∨ k = 4 := by omega
  rcases this with rfl | rfl | rfl <;> decide +kernel
end Mine
end
section
open PySem PySem.W PyProof.Rows PySem.Calls
set_option maxRecDepth 100000
namespace Mine
theorem pick_rul {h₀ h : Heap} {L Dr : Addr} {nw : List (Addr × Obj)} {p q : Int} {t1 t2 : Tok} {k : Nat} (_N : News h₀ L h nw) (hm : (Dr, listOf (List.toArray [.int p t1, .int q t2]) k) ∈ nw) : ∃ rus, (Dr, listOf (List.toArray rus) k) ∈ nw ∧ IntsAre rus [p, q] := ⟨_, hm, .cons _ _ (.cons _ _ .nil)⟩
theorem pow_len {fs : List Int} (h : fs.length = 8) (r : Int) (h0 : 0 ≤ r) (h1 : r < 3) : 2 ≤ (List.map (fun k' : Int => k'.fmod 100 - 50) (List.take (min (6 + r).toNat fs.length - 4) (List.drop 4 fs))).length ∧ (List.map (fun k' : Int => k'.fmod 100 - 50) (List.take (min (6 + r).toNat fs.length - 4) (List.drop 4 fs))).length ≤ 4 := by
  rw [List.length_map, List.length_take, List.length_drop, h]
  omega
theorem fm (x : Int) {k : Int} (h : 0 < k) : 0 ≤ x.fmod k ∧ x.fmod k < k := by
  rw [Int.fmod_eq_emod_of_nonneg x (Int.le_of_lt h)]
  exact ⟨Int.emod_nonneg _ (Int.ne_of_gt h), Int.emod_lt_of_pos _ h⟩
theorem pow_bnd (l : List Int) : ∀ p ∈ List.map (fun k' : Int => k'.fmod 100 - 50) l, -50 ≤ p ∧ p ≤ 49 := by
  intro p hp
  obtain ⟨x, _, rfl⟩ := List.mem_map.mp hp
  have a := fm x (k := 100) (by decide)
  exact ⟨by omega, by omega⟩
theorem pick4 {prog : Program} {w : World} {A : Around} {E : Value → Shared → Prop} {s : Shared} {value slice : PySem.Expr} {l r0 r1 r2 r3 : Addr} {k : Int} {u : Tok} {Q : Value → Shared → Prop} (hl : s.heap.IsList l (List.toArray [.ref r0, .ref r1, .ref r2, .ref r3])) (h0 : 0 ≤ k) (h4 : k < 4) (h : ∀ r, (k = 0 ∧ r = r0) ∨ (k = 1 ∧ r = r1) ∨ (k = 2 ∧ r = r2) ∨ (k = 3 ∧ r = r3) → Q (.ref r) s)
    (hs : subscripted slice false (.ref l) (.int k u) = operate [.ref l, .int k u] (getItem (.ref l) (.int k u)) := by with_unfolding_all rfl) : wpAny (model prog w) A (subscriptTail value slice (.ref l) (.int k u)) Q E s := by
  have hk : k = 0 ∨ k = 1 ∨ k = 2 ∨ k = 3 := by omega
  rcases hk with rfl | rfl | rfl | rfl
  · exact tail_any hl.typeIs slot_list_getitem.lookup (wpAny_getItem_list hl (by decide) (by decide) rfl (h _ (.inl ⟨rfl, rfl⟩))) hs
  · exact tail_any hl.typeIs slot_list_getitem.lookup (wpAny_getItem_list hl (by decide) (by decide) rfl (h _ (.inr (.inl ⟨rfl, rfl⟩)))) hs
  · exact tail_any hl.typeIs slot_list_getitem.lookup (wpAny_getItem_list hl (by decide) (by decide) rfl (h _ (.inr (.inr (.inl ⟨rfl, rfl⟩))))) hs
  · exact tail_any hl.typeIs slot_list_getitem.lookup (wpAny_getItem_list hl (by decide) (by decide) rfl (h _ (.inr (.inr (.inr ⟨rfl, rfl⟩))))) hs
theorem tail_len (i : Int) : (tailF i).length ≤ 2 := by
  unfold tailF
  split
  · decide
  · split
    · decide
    · split <;> decide
theorem due_mem (p q r : Int) (hp1 : 1 ≤ p) (hp2 : p ≤ 3) (hq1 : 1 ≤ q) (hq2 : q ≤ 2) : ∀ z ∈ [p, q] ++ List.replicate r.toNat q, z = 1 ∨ z = 2 ∨ z = 3 := by
  intro z hz
  rcases List.mem_append.mp hz with hz | hz
  · simp only [List.mem_cons, List.not_mem_nil, or_false] at hz
    omega
  · have := List.eq_of_mem_replicate hz
    omega
theorem due_sum (p q r : Int) (hp1 : 1 ≤ p) (hp2 : p ≤ 3) (hq1 : 1 ≤ q) (hq2 : q ≤ 2) (hr0 : 0 ≤ r) (hr1 : r ≤ 1) : 0 ≤ ([p, q] ++ List.replicate r.toNat q).sum ∧ ([p, q] ++ List.replicate r.toNat q).sum ≤ 7 := by
  have : r = 0 ∨ r = 1 := by omega
  rcases this with rfl | rfl
  · show 0 ≤ p + (q + 0) ∧ p + (q + 0) ≤ 7; omega
  · show 0 ≤ p + (q + (q + 0)) ∧ p + (q + (q + 0)) ≤ 7; omega
theorem pw_bnd {n : Int} (h0 : 0 ≤ n) (h1 : n ≤ 7) : 0 ≤ (2 : Int) ^ n.toNat ∧ (2 : Int) ^ n.toNat ≤ 1000 := by
  have : n = 0 ∨ n = 1 ∨ n = 2 ∨ n = 3 ∨ n = 4 ∨ n = 5 ∨ n = 6 ∨ n = 7 := by omega
  rcases this with rfl | rfl | rfl | rfl | rfl | rfl | rfl | rfl <;> decide
theorem falls_len (k : Nat) : (fallsF k).length = k := by
  unfold fallsF
  rw [List.length_map, rangeKs_length]
theorem idx8 {k : Int} {fs : List Int} (h : fs.length = 8) (hk : k < 8) : k < (fs.length : Int) := by rw [h]; exact hk
local macro_rules | `(tactic| k_mem) => `(tactic| kcf_m)
local macro_rules | `(tactic| walk_at "subscriptTail Name Constant ref int") => `(tactic| (k_here; (with_reducible show wpAny _ _ (subscriptTail _ _ (Value.ref _) (Value.int _ _)) _ _ _); k_dflt (refine' ksa_sub ?myg1 ?myg2 ?myg3 ?myg4 ?myg5 ?myg6 ?_ ?myg7; (case myg1 => k_asm); (case myg2 => kcf_m); (case myg3 => with_reducible assumption); (case myg4 => decide); (case myg5 => first | exact idx8 (by assumption) (by decide) | decide); (case myg6 => decide); (case myg7 => with_unfolding_all rfl)); intro _))
local macro_rules | `(tactic| walk_at "eval Name") => `(tactic| (k_here; (with_reducible show wpAny _ _ (eval (Expr.Name _ _) (compEnvC _ _ _ _)) _ _ _); k_dflt (refine kcf_cell (by k_asm) (by rfl) (by kcf_m) (by k_asm) ?_); (try dsimp only)))
local macro_rules | `(tactic| walk_at "binaryOp Pow int int") => `(tactic| (k_here; k_dflt ((with_reducible refine pow_int_small ?myp1 ?myp2 ?myp3 ?_); (case myp1 => assumption); (case myp2 => assumption); (case myp3 => assumption)); (try dsimp only)))
local macro_rules | `(tactic| walk_at "binaryOp Mult int int") => `(tactic| (k_here; k_dflt ((refine mul_int ?_ ?mymu); (case mymu => (rename ∀ (_ : Int), IntMulOk _ _ => hM'; exact hM' _))); (try dsimp only)))
set_option maxHeartbeats 8000000 in
theorem law_w : PySem.Challenge.rw_to0002_01.Holds := Mine.hd (by
  k_fill
  intro w s₀ s₁ mg mb G Y fa o pm cd doc dV kV ho hd hcd hD hmg hg args vals as hpre hlay hrd hwl hlo
  have KX0 := kIn_of Y
  have X := (Ground.X G).1
  have V := (Ground.X G).2
  try w_nolog (first | (have GL := glob_more (Ground.glob G (by first | k_qdec | decide +kernel) (by first | k_qdec | decide +kernel)) V) | (have GL := glob_more (Ground.glob G (by decide +kernel)) V))
  refine Ground.open G ?_
  intro T B D TE TW
  try (refine guard_noD D (by decide +kernel) ?_; clear D)
  obtain ⟨_, _, M⟩ := bmod_of_top T
  have TA := at_of_top T
  try (obtain ⟨_, _, he, B0⟩ := based_of_top T rfl hmg ho hd; have he' : cd = _ := he; subst he'; clear he)
  clear hmg
  wrow_args hpre hlay hrd hwl hlo
  first | refine callC_kw (enter_call ?_) | refine enter_call ?_ | refine callC_kw (enter_callW ?_) | refine enter_callW ?_ | w_how
  w_top on
  have K0 := below_caller (Top.heap T)
  w_call any ho hd hcd hD T F
  clear hd TA
  k_drop
  rename Shared => s1
  rename Obj => oP
  all_goals try k_fold
  repeat ((fail_if_success (with_reducible show wpAny _ _ (exec (Stmt.Assign [Expr.Name _ _] (Expr.BinOp _ _ _ _) _) _) _ _ _)); (first | (k_unfold; (try dsimp only)) | walk1))
  rename List Int => sc
  have h8 : (List.map (fun k' : Int => k'.fmod (10 ^ Int.toNat 6)) (List.take 8 sc)).length ≤ 8 := by rw [List.length_map, List.length_take]; omega
  generalize (List.map (fun k' : Int => k'.fmod (10 ^ Int.toNat 6)) (List.take 8 sc)) = ds at *
  rename IntsAre _ ds => hds
  repeat ((fail_if_success (with_reducible show wpAny _ _ (subscriptTail _ _ (Value.ref _) (Value.ref _)) _ _ _)); (first | (k_unfold; (try dsimp only)) | walk1))
  rename Fr _ _ _ _ => F1
  rename News _ _ _ _ => N1
  k_dflt (refine kba_turn (value' := PySem.Expr.Name (PySem.Str.ofString "_") ⟨0, 0, 0, 0⟩) (fun _ => rfl) ?_)
  k_dflt (refine' kmk_slice_ints (ns := [1, 1, 0, 0, 53, 48, 51, 49]) F1 N1 ?a1 ?a2 ?a3 ?a4 ?a5 ?a6 ?_ ?a7 ?a8 ?a9)
  case a1 => exact News.isList N1 (by kcf_m)
  case a2 => exact IsPart.int _ _
  case a3 => exact IsPart.none
  case a4 => exact .cons _ _ (.cons _ _ (.cons _ _ (.cons _ _ (.cons _ _ (.cons _ _ (.cons _ _ (.cons _ _ .nil)))))))
  case a5 => exact kmk_from (.cons _ _ (.cons _ _ (.cons _ _ (.cons _ _ (.cons _ _ (.cons _ _ (.cons _ _ (.cons _ _ .nil)))))))) (Int.natCast_nonneg _)
  case a6 => exact List.length_drop ..
  case a7 => with_unfolding_all rfl
  case a8 => kmk_pure
  case a9 => exact Nat.le_of_ble_eq_true rfl
  intro D2 ws2 h2 F2 N2 l2 hI2 hL2 _
  dsimp only
  clear F1 N1
  repeat ((fail_if_success (with_reducible show wpAny _ _ (binaryOp _ (Value.ref _) (Value.ref _)) _ _ _)); (first | (k_unfold; (try dsimp only)) | walk1))
  have sz2 : ds.length + (List.drop (ds.length : Int).toNat [(1 : Int), 1, 0, 0, 53, 48, 51, 49]).length = 8 := by
    rw [List.length_drop]
    show ds.length + (8 - (ds.length : Int).toNat) = 8
    omega
  k_dflt (refine kmk_add_ints F2 N2 (News.isList N2 (by kcf_m)) (News.isList N2 (by kcf_m)) hds hI2 ?_ (by rw [sz2, PySem.sizeLine_eq]; decide))
  intro D3 ws3 h3 F3 N3 l3 hI3
  rw [← List.length_append] at sz2
  generalize ds ++ List.drop (ds.length : Int).toNat [(1 : Int), 1, 0, 0, 53, 48, 51, 49] = fs at *
  dsimp only
  clear F2 N2
  repeat ((fail_if_success (with_reducible show wpAny _ _ (exec (Stmt.Assign [Expr.Name _ _] (Expr.ListComp _ _ _ _) _) _) _ _ _)); (first | (k_unfold; (try dsimp only)) | walk1))
  rename Fr _ _ _ _ => F4
  rename News _ _ _ _ => N4
  have N5 : News s1.heap s1.heap.objs.size _ [(D3, listOf ws3.toArray 0), (s1.heap.objs.size + 1, oP)] := cb_drop N4 (by kcf_all)
  clear N4 hI2 hL2 l2 l3
  repeat ((fail_if_success (with_reducible show wpAny _ _ (exec (Stmt.Assign [Expr.Name _ _] (Expr.Call _ _ _ _) _) _) _ _ _)); (first | (k_unfold; (try dsimp only)) | walk1))
  rename Fr _ _ _ _ => F6
  rename News _ _ _ _ => N6
  rename IntsAre ys _ => hps
  rename_i Dp h7a tk7a o7a h6a oc dc t3a t2a Dr h5a l3a h4a t1a la h3a l2a ta D1a h2a i1a n1a s1a e1a e2a e3a l1b Du wu h1a hIu l1c h7
  have hdue : IntsAre wu ([1 + (fs.getD (Int.toNat 1) 0).fmod 3, 1 + (fs.getD (Int.toNat 2) 0).fmod 2] ++ List.replicate ((fs.getD (Int.toNat 3) 0).fmod 2).toNat (1 + (fs.getD (Int.toNat 2) 0).fmod 2)) := by
    have hx := hIu
    rw [List.flatten_replicate_singleton] at hx
    exact hx
  obtain ⟨rus, hrus, hIr⟩ := pick_rul (Dr := Dr) (p := 1 + (fs.getD (Int.toNat 1) 0).fmod 3) (q := 1 + (fs.getD (Int.toNat 2) 0).fmod 2) N6 (by kcf_m)
  have N7 : News s1.heap s1.heap.objs.size h7 [(Du, listOf wu.toArray 0), (Dr, listOf rus.toArray 0), (Dp, LCg.lst ys), (D3, listOf ws3.toArray 0), (s1.heap.objs.size + 1, oc)] := fun p hp => by
    simp only [List.mem_cons, List.not_mem_nil, or_false] at hp
    rcases hp with rfl | rfl | rfl | rfl | rfl
    · exact N6 _ (by kcf_m)
    · exact N6 _ hrus
    · exact N6 _ (by kcf_m)
    · exact N6 _ (by kcf_m)
    · exact N6 _ (by kcf_m)
  have hpl := pow_len sz2 (Int.fmod (fs.getD 0 0) 3) (fm _ (by decide)).1 (fm _ (by decide)).2
  have hpb := pow_bnd (List.take (min (6 + Int.fmod (fs.getD 0 0) 3).toNat fs.length - 4) (List.drop 4 fs))
  have hgs : s1.gens = #[] := by assumption
  have hp0 := fm (fs.getD (Int.toNat 1) 0) (k := 3) (by decide)
  have hq0 := fm (fs.getD (Int.toNat 2) 0) (k := 2) (by decide)
  have hi4 := fm (fs.getD (Int.toNat 3) 0) (k := 4) (by decide)
  have hi2 : (fs.getD (Int.toNat 3) 0).fmod 2 = (fs.getD (Int.toNat 3) 0).fmod 4 % 2 := by
    rw [Int.fmod_eq_emod_of_nonneg _ (by decide), Int.fmod_eq_emod_of_nonneg _ (by decide)]; omega
  generalize (List.map (fun k' : Int => k'.fmod 100 - 50) (List.take (min (6 + Int.fmod (fs.getD 0 0) 3).toNat fs.length - 4) (List.drop 4 fs))) = ps at *
  clear N6 hIu hrus l1c l1b e1a e2a e3a s1a i1a l2a l3a
  repeat ((fail_if_success (with_reducible show wpAny _ _ (subscriptTail (Expr.List _ _) _ _ _) _ _ _)); (first | (k_unfold; (try dsimp only)) | walk1))
  rename Fr _ _ _ _ => F8
  rename News _ _ _ _ => N8
  rename_i l0a h8a l8a l1a h8b l8b l2b h8c l8c l3b h8d l8d l4a h8 l8 t8
  k_dflt (refine pick4 (News.isList N8 (by kcf_m)) hi4.1 hi4.2 ?_ (by with_unfolding_all rfl))
  intro rt hrt
  have hex : ∃ tus, News s1.heap s1.heap.objs.size h8 [(rt, listOf (List.toArray tus) 0), (Dr, listOf rus.toArray 0), (Du, listOf wu.toArray 0), (Dp, LCg.lst ys), (s1.heap.objs.size + 1, oc)] ∧ IntsAre tus (tailF ((fs.getD (Int.toNat 3) 0).fmod 4)) := by
    rcases hrt with ⟨e, rfl⟩ | ⟨e, rfl⟩ | ⟨e, rfl⟩ | ⟨e, rfl⟩
    · exact ⟨[], cb_drop N8 (by kcf_all), by rw [e]; exact .nil⟩
    · exact ⟨[_], cb_drop N8 (by kcf_all), by rw [e]; exact .cons _ _ .nil⟩
    · exact ⟨[_, _], cb_drop N8 (by kcf_all), by rw [e]; exact .cons _ _ (.cons _ _ .nil)⟩
    · exact ⟨[_, _], cb_drop N8 (by kcf_all), by rw [e]; exact .cons _ _ (.cons _ _ .nil)⟩
  clear N8
  try clear N7
  refine hex.elim fun tus ht => ?_
  have htm := ht.1
  have hti := ht.2
  clear hex ht
  have szt : [1 + (fs.getD (Int.toNat 1) 0).fmod 3, 1 + (fs.getD (Int.toNat 2) 0).fmod 2].length + (tailF ((fs.getD (Int.toNat 3) 0).fmod 4)).length ≤ sizeLine := by
    have := tail_len ((fs.getD (Int.toNat 3) 0).fmod 4)
    rw [PySem.sizeLine_eq]
    show 2 + _ ≤ _
    omega
  k_dflt (refine kmk_add_ints F8 htm (News.isList htm (by kcf_m)) (News.isList htm (by kcf_m)) hIr hti ?_ szt)
  intro D9 ws9 h9 F9 N9 l9 hI9
  have N10 : News s1.heap s1.heap.objs.size h9 [(D9, listOf ws9.toArray 0), (Du, listOf wu.toArray 0), (Dp, LCg.lst ys), (s1.heap.objs.size + 1, oc)] := cb_drop N9 (by kcf_all)
  clear F8 htm N9 hti szt
  try clear F6
  dsimp only
  repeat ((fail_if_success (with_reducible show wpAny _ _ (call (Value.ref _) _) _ _ _)); (first | (k_unfold; (try dsimp only)) | walk1))
  rename Frag.In _ s1.heap => KX
  rename Fr _ _ _ _ => F10
  k_dflt (refine' siz_c _ _ _ _ _ _ _ _ _ _ _ _ _ _ _ _ _ _ ?mysB F10 KX ?mysT ?mysK D9 0 (1 + (fs.getD (Int.toNat 1) 0).fmod 3) (1 + (fs.getD (Int.toNat 2) 0).fmod 2) ((fs.getD (Int.toNat 3) 0).fmod 4) ws9 N10 hI9 (by omega) (by omega) (by omega) (by omega) hi4.1 hi4.2 hgs ?myse ?mysu ?_)
  case mysB => k_asm
  case mysT => k_asm
  case mysK => first | exact rfl | assumption
  case myse => ktr_room
  case mysu => ktr_units
  intro c us n h' tk' gs F11 N11 hus hgb
  clear F10 N10 hI9
  rw [hi2] at hdue
  have hsz := due_mem (1 + (fs.getD (Int.toNat 1) 0).fmod 3) (1 + (fs.getD (Int.toNat 2) 0).fmod 2) ((fs.getD (Int.toNat 3) 0).fmod 4 % 2) (by omega) (by omega) (by omega) (by omega)
  have hsum := due_sum (1 + (fs.getD (Int.toNat 1) 0).fmod 3) (1 + (fs.getD (Int.toNat 2) 0).fmod 2) ((fs.getD (Int.toNat 3) 0).fmod 4 % 2) (by omega) (by omega) (by omega) (by omega) (by omega) (by omega)
  generalize [1 + (fs.getD (Int.toNat 1) 0).fmod 3, 1 + (fs.getD (Int.toNat 2) 0).fmod 2] ++ List.replicate ((fs.getD (Int.toNat 3) 0).fmod 4 % 2).toNat (1 + (fs.getD (Int.toNat 2) 0).fmod 2) = dz at *
  have N12 : News s1.heap s1.heap.objs.size h' [(c, listOf us.toArray n), (Du, listOf wu.toArray 0), (Dp, LCg.lst ys), (s1.heap.objs.size + 1, oc)] := cb_drop N11 (by kcf_all)
  clear N11
  dsimp only
  repeat ((fail_if_success (with_reducible show wpAny _ _ (compareOp _ (Value.ref _) (Value.ref _)) _ _ _)); (first | (k_unfold; (try dsimp only)) | walk1))
  repeat ((fail_if_success (with_reducible show @ite _ _ _ _ _)); (first | (k_unfold; (try dsimp only)) | walk1))
  rw [if_neg Bool.false_ne_true]
  repeat ((fail_if_success (with_reducible show wpAny _ _ (call (Value.ref 47) _) _ _ _)); (first | (k_unfold; (try dsimp only)) | walk1))
  rename Fr _ _ _ _ => F13
  rename News _ _ _ _ => N13
  have N14 : News s1.heap s1.heap.objs.size _ ((Dp, listOf ys.toArray ys.length) :: (Dp, listOf ys.toArray ys.length) :: (c, listOf us.toArray n) :: (Du, listOf wu.toArray 0) :: (s1.heap.objs.size + 1, oc) :: []) := cb_drop N13 (by kcf_all)
  clear N13
  k_dflt (refine' wt_c _ _ _ _ _ _ _ _ _ _ _ _ _ _ _ _ _ _ ?mycB F13 KX ?mycT ?mycK Dp ys ps _ _ 1 N14 hps hpl.2 hpb (by decide) (by decide) ?myce ?mycu ?_)
  case mycB => k_asm
  case mycT => k_asm
  case mycK => first | exact rfl | assumption
  case myce => ktr_room
  case mycu => ktr_units
  intro us1 c1 n1 h15 tk15 hi15 F15 N15
  clear F13 N14
  dsimp only
  repeat ((fail_if_success (with_reducible show wpAny _ _ (call (Value.ref 66) _) _ _ _)); (first | (k_unfold; (try dsimp only)) | walk1))
  have hw4 : (weights ps 1).length ≤ 4 := by rw [weights_len]; exact hpl.2
  have N16 : News s1.heap s1.heap.objs.size h15 ((c1, listOf us1.toArray n1) :: (c, listOf us.toArray n) :: (Dp, listOf ys.toArray ys.length) :: (Du, listOf wu.toArray 0) :: (s1.heap.objs.size + 1, oc) :: []) := cb_drop N15 (by kcf_all)
  k_dflt (refine' wal_c _ _ _ _ _ _ _ _ _ _ _ _ _ _ _ _ _ _ ?mywB F15 KX ?mywT ?mywK c1 c us1 us (weights ps 1) dz n1 n N16 hi15 hus hw4 hsz ?mywe ?mywu ?_)
  case mywB => k_asm
  case mywT => k_asm
  case mywK => first | exact rfl | assumption
  case mywe => ktr_room
  case mywu => ktr_units
  intro us2 c2 n2 h17 tk17 hi17 F17 N17
  rw [weights_law ps hpl dz hsz] at hi17
  clear F15 N15 N16
  dsimp only
  repeat ((fail_if_success (with_reducible show wpAny _ _ (call (Value.ref 47) _) _ _ _)); (first | (k_unfold; (try dsimp only)) | walk1))
  rename Fr _ _ _ _ => F18
  rename News _ _ _ _ => N18
  have N19 : News s1.heap s1.heap.objs.size _ ((Dp, listOf ys.toArray ys.length) :: (c2, listOf us2.toArray n2) :: (Dp, listOf ys.toArray ys.length) :: (s1.heap.objs.size + 1, oc) :: []) := cb_drop N18 (by kcf_all)
  have hpw := pw_bnd hsum.1 hsum.2
  k_dflt (refine' wt_c _ _ _ _ _ _ _ _ _ _ _ _ _ _ _ _ _ _ ?myxB F18 KX ?myxT ?myxK Dp ys ps _ _ (2 ^ dz.sum.toNat) N19 hps hpl.2 hpb hpw.1 hpw.2 ?myxe ?myxu ?_)
  case myxB => k_asm
  case myxT => k_asm
  case myxK => first | exact rfl | assumption
  case myxe => ktr_room
  case myxu => ktr_units
  intro us3 c3 n3 h20 tk20 hi20 F20 N20
  try clear F18
  try clear N18
  try clear N19
  dsimp only
  repeat ((fail_if_success (with_reducible show @ite _ _ _ _ _)); (first | (k_unfold; (try dsimp only)) | walk1))
  rw [if_neg Bool.false_ne_true]
  repeat ((fail_if_success (with_reducible show wpAny _ _ (call (Value.ref 71) _) _ _ _)); (first | (k_unfold; (try dsimp only)) | walk1))
  have N21 : News s1.heap s1.heap.objs.size h20 ((Dp, listOf ys.toArray ys.length) :: (s1.heap.objs.size + 1, oc) :: []) := cb_drop N20 (by kcf_all)
  k_dflt (refine' fal_c _ _ _ _ _ _ _ _ _ _ _ _ _ _ _ _ _ _ ?mykB F20 KX ?mykT ?mykK _ ps.length N21 hpl.2 ?myke ?myku ?_)
  case mykB => k_asm
  case mykT => k_asm
  case mykK => first | exact rfl | assumption
  case myke => ktr_room
  case myku => ktr_units
  intro us4 c4 n4 h22 tk22 hi22 F22 N22
  try clear F20
  try clear N20
  try clear N21
  dsimp only
  repeat ((fail_if_success (with_reducible show wpAny _ _ (call (Value.ref 59) _) _ _ _)); (first | (k_unfold; (try dsimp only)) | walk1))
  rename Fr _ _ _ _ => F23
  rename News _ _ _ _ => N23
  have N24 : News s1.heap s1.heap.objs.size _ ((c4, listOf us4.toArray n4) :: (c4, listOf us4.toArray n4) :: (Dp, listOf ys.toArray ys.length) :: (s1.heap.objs.size + 1, oc) :: []) := cb_drop N23 (by kcf_all)
  k_dflt (refine' car_c _ _ _ _ _ _ _ _ _ _ _ _ _ _ _ _ _ _ ?myzB F23 KX ?myzT ?myzK c4 us4 (fallsF ps.length) _ _ 2 N24 hi22 ?myzl (.inl rfl) ?myze ?myzu ?_)
  case myzB => k_asm
  case myzT => k_asm
  case myzK => first | exact rfl | assumption
  case myze => ktr_room
  case myzu => ktr_units
  case myzl => rw [falls_len]; exact hpl.2
  intro us5 c5 n5 h25 tk25 hi25 F25 N25
  try clear F23
  try clear N23
  try clear N24
  rw [falls_law hpl.1 hpl.2] at hi25
  have hM : ∀ b : Int, IntMulOk (2 ^ Int.toNat (ps.length : Int)) b := fun b => IntMulOk.of_left (intBits_le_64 (by have := pw_bnd (n := (ps.length : Int)) (by omega) (by omega); omega) (by have := pw_bnd (n := (ps.length : Int)) (by omega) (by omega); omega))
  dsimp only
  have hp4 : (0 : Int) ≤ (ps.length : Int) := Int.natCast_nonneg _
  have hp5 : (ps.length : Int) ≤ 1000000 := by have := hpl.2; omega
  have hp6 : (2 : Int).natAbs < 2 ^ 64 := by decide
  k_dflt (refine LCg.ListComp_U (F₀ := F25) (by with_unfolding_all rfl) (by decide) (by rfl) (by decide) (by rfl) ?_)
  repeat ((fail_if_success (with_reducible show LCg.CompSrc _ _ _ _ _ _ _ _ _ _ _ _ _ _)); (first | (k_unfold; (try dsimp only)) | walk1))
  have hcl : ps.length ≤ 4 := hpl.2
  have hus4 : us4.toArray.size ≤ sizeLine := by
    have e := hi22.length
    rw [falls_len] at e
    rw [List.size_toArray, PySem.sizeLine_eq]; omega
  k_dflt (refine LCg.CompSrc.ledger (by rfl) F25 N25 (by kcf_m) hus4 ?_)
  intro g'
  k_dflt (refine' kcf_list (fun c => 2 ^ Int.toNat (ps.length : Int) * c) hi22 (fun k' t' I' oI' C' oC' D' m' ys' h' tk' E' hk' hC' hx' F' N' off' ne' hMark' => ?_) ?_)
  · simp only [LCg.Off3, and_true] at off'
    clear F25 N25
    try k_fold
    k_steps
  · intro zs hzs D26 h26 tk26 F26 N26 off26
    clear F25 N25
    k_steps
    refine ⟨.inl ⟨_, .bool true, [], rfl, raisesW_false ?_, .bool true, ?_, unshared_nil⟩, OldK.of_keep F26.keep, rfl, hgb⟩
    · wrow_none_raised
    · kc_post)
end Mine
end
theorem PySem.Challenge.cw_to0002_01_holds : PySem.Challenge.rw_to0002_01.Holds := by
  exact Mine.law_w
