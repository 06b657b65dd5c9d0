import PyProof.Rows.All
import Wide.All
import OpenK.AllK
import Wide.FinOn
import PySem.Challenge.RW_tp0006_01
open PySem PySem.W PyProof.Rows
set_option Elab.async false
set_option maxRecDepth 100000 in
set_option maxHeartbeats 8000000 in
open_top hd for PySem.Challenge.rw_tp0006_01
open PySem PySem.W PySem.Calls PyProof.Rows PySem.Spec
set_option maxRecDepth 100000
namespace Mine

abbrev tupOf (vs : List Value) : Obj := { cls := .type "tuple", data := .seq vs.toArray }
abbrev lstOf (vs : List Value) : Obj := { cls := .type "list", data := .seq vs.toArray }
abbrev Ctr (w : World) (mean : ExcName → Option Value) (mg mb : Str → Option Value) (f : Addr) (k : Nat) (news : List (Addr × Obj)) (vs : List Value) (Res : Value → List (Addr × Obj) → Prop) : Prop :=
  ∀ (dp un : Nat) (gd : Option (List Code)) (cn : Str) (cs : Scope) (a : Addr) (ccd : Value) (cl : List (Str × Addr)) (outer : List Env) (A₀ : Around) (base h₀ : Heap) (L : Addr) (m : Str → Option Value) (s : Shared) (Q E : Value → Shared → Prop),
    Below A₀ base outer h₀ → Fr h₀ L s.heap m → (hd.heap_39 w.params).In h₀ → News h₀ L s.heap news → Top hd.view_39 (looseW hd.view_39 [Str.ofString "Flags"]) mean mg mb h₀ → cs.kind = .function → dp + k < recursionLimit → un + 8 * k < cLine →
    (∀ v tl h' tk', Res v tl → Fr h₀ L h' m → News h₀ L h' (tl ++ news) → (∀ q ∈ news, ∀ p ∈ tl, q.1 < p.1) → Q v { s with heap := h', toks := tk' }) →
    wpAny (model PySem.Challenge.rw_tp0006_01.row.prog w) (ktrTop dp un gd cn cs L a ccd cl outer) (call (.ref f) vs) Q E s
end Mine
namespace Mine
open PySem.Flt

noncomputable def mx3 (a b c : UInt64) : UInt64 := if gtB b a = true then (if gtB c b = true then c else b) else (if gtB c a = true then c else a)
noncomputable def mn3 (a b c : UInt64) : UInt64 := if ltB b a = true then (if ltB c b = true then c else b) else (if ltB c a = true then c else a)

section
variable {prog : Program} {w : World} {A : Around} {E : Value → Shared → Prop} {s : Shared} {h₀ : Heap} {L : Addr} {m : Str → Option Value} {news : List (Addr × Obj)}

noncomputable def fItems (a b c : UInt64) (t u x : Tok) : Array Value := #[.float a t, .float b u, .float c x]
noncomputable def fAt (a b c : UInt64) : Nat → UInt64
  | 0 => a
  | 1 => b
  | _ => c
theorem fItems_at {a b c : UInt64} {t u x : Tok} {i : Nat} {v : Value} (h : (fItems a b c t u x)[i]? = some v) : i ≤ 2 ∧ ∃ y, v = .float (fAt a b c i) y := by
  match i, h with
  | 0, h => exact ⟨by omega, t, (Option.some.inj h).symm⟩
  | 1, h => exact ⟨by omega, u, (Option.some.inj h).symm⟩
  | 2, h => exact ⟨by omega, x, (Option.some.inj h).symm⟩
  | n + 3, h => simp [fItems] at h

theorem max3_floats {a b c : UInt64} {t u x : Tok} {Q : Value → Shared → Prop} (hh : A.handled = none) (F : Fr h₀ L s.heap m) (N : News h₀ L s.heap news)
    (h : ∀ h' tk t, Fr h₀ L h' m → News h₀ L h' news → Q (.float (mx3 a b c) t) { s with heap := h', toks := tk }) :
    wpAny (model prog w) A (call (.builtin "max") [.float a t, .float b u, .float c x]) Q E s := by
  have hT : (s.heap.push { cls := .type "tuple", data := .seq #[.float a t, .float b u, .float c x] }).IsTuple s.heap.objs.size (fItems a b c t u x) := ⟨_, Heap.get?_push_size _ rfl, rfl, 0, by simp [fItems]⟩
  refine call_max_three (wpAny_pyIter_tuple hT ?_)
  have hsz : (s.heap.push { cls := .type "tuple", data := .seq #[.float a t, .float b u, .float c x] }).objs.size = s.heap.objs.size + 1 := Heap.size_push ..
  refine ⟨_, [_, s.heap.objs.size], [_], _, _, _, fun i j => gtB (fAt a b c i) (fAt a b c j), rfl, Walks.tuple (A := A.in1) hh _ s.heap.objs.size (by rw [hsz]; exact Nat.ne_of_lt (Nat.lt_succ_self _)) (fItems a b c t u x),
    ⟨⟨_, Heap.get?_push_size _ rfl, rfl, rfl⟩, hT.push _⟩, fun d hd => ?_, by simp [fItems], fun i j vi vj s Q E hi hj h => ?_, fun v h' tk hP hk => ?_⟩
  · show d < ((s.heap.push _).push _).objs.size
    rw [Heap.size_push, hsz]
    rcases List.mem_cons.mp hd with rfl | hd
    · rw [hsz]; exact Nat.lt_succ_self _
    · rcases List.mem_cons.mp hd with rfl | hd
      · exact Nat.lt_succ_of_lt (Nat.lt_succ_self _)
      · cases hd
  · obtain ⟨_, y, rfl⟩ := fItems_at hi
    obtain ⟨_, z, rfl⟩ := fItems_at hj
    exact AutoFloatOps.gt_0 (by rw [cmp_gt]; exact h)
  · have hold : ∀ d o, s.heap.get? d = some o → h'.get? d = some o := fun d o e => by
      refine hk d o (fun hm => ?_) (Heap.get?_push_of_some _ (Heap.get?_push_of_some _ e))
      rcases List.mem_cons.mp hm with e1 | hm
      · have := Heap.lt_size e; rw [e1, hsz] at this; exact Nat.lt_irrefl _ (Nat.lt_of_succ_lt this)
      · cases hm
    have hsz2 : (fItems a b c t u x).size - 1 = 2 := by simp [fItems]
    have hP' : (fItems a b c t u x)[argBest (fun i j => gtB (fAt a b c i) (fAt a b c j)) 2]? = some v := by
      rw [← hsz2]; exact hP
    obtain ⟨_, y, rfl⟩ := fItems_at hP'
    have e : fAt a b c (argBest (fun i j => gtB (fAt a b c i) (fAt a b c j)) 2) = mx3 a b c := by
      unfold mx3
      simp only [argBest, fAt]
      by_cases hba : gtB b a = true
      · by_cases hc : gtB c b = true <;> simp [hba, hc, fAt]
      · by_cases hc : gtB c a = true <;> simp [hba, hc, fAt]
    rw [e]
    exact h h' tk y (F.grownK hold) (N.grown hold)

theorem min3_floats {a b c : UInt64} {t u x : Tok} {Q : Value → Shared → Prop} (hh : A.handled = none) (F : Fr h₀ L s.heap m) (N : News h₀ L s.heap news)
    (h : ∀ h' tk t, Fr h₀ L h' m → News h₀ L h' news → Q (.float (mn3 a b c) t) { s with heap := h', toks := tk }) :
    wpAny (model prog w) A (call (.builtin "min") [.float a t, .float b u, .float c x]) Q E s := by
  have hT : (s.heap.push { cls := .type "tuple", data := .seq #[.float a t, .float b u, .float c x] }).IsTuple s.heap.objs.size (fItems a b c t u x) := ⟨_, Heap.get?_push_size _ rfl, rfl, 0, by simp [fItems]⟩
  refine call_min_three (wpAny_pyIter_tuple hT ?_)
  have hsz : (s.heap.push { cls := .type "tuple", data := .seq #[.float a t, .float b u, .float c x] }).objs.size = s.heap.objs.size + 1 := Heap.size_push ..
  refine ⟨_, [_, s.heap.objs.size], [_], _, _, _, fun i j => ltB (fAt a b c i) (fAt a b c j), rfl, Walks.tuple (A := A.in1) hh _ s.heap.objs.size (by rw [hsz]; exact Nat.ne_of_lt (Nat.lt_succ_self _)) (fItems a b c t u x),
    ⟨⟨_, Heap.get?_push_size _ rfl, rfl, rfl⟩, hT.push _⟩, fun d hd => ?_, by simp [fItems], fun i j vi vj s Q E hi hj h => ?_, fun v h' tk hP hk => ?_⟩
  · show d < ((s.heap.push _).push _).objs.size
    rw [Heap.size_push, hsz]
    rcases List.mem_cons.mp hd with rfl | hd
    · rw [hsz]; exact Nat.lt_succ_self _
    · rcases List.mem_cons.mp hd with rfl | hd
      · exact Nat.lt_succ_of_lt (Nat.lt_succ_self _)
      · cases hd
  · obtain ⟨_, y, rfl⟩ := fItems_at hi
    obtain ⟨_, z, rfl⟩ := fItems_at hj
    exact AutoFloatOps.lt_0 h
  · have hold : ∀ d o, s.heap.get? d = some o → h'.get? d = some o := fun d o e => by
      refine hk d o (fun hm => ?_) (Heap.get?_push_of_some _ (Heap.get?_push_of_some _ e))
      rcases List.mem_cons.mp hm with e1 | hm
      · have := Heap.lt_size e; rw [e1, hsz] at this; exact Nat.lt_irrefl _ (Nat.lt_of_succ_lt this)
      · cases hm
    have hsz2 : (fItems a b c t u x).size - 1 = 2 := by simp [fItems]
    have hP' : (fItems a b c t u x)[argBest (fun i j => ltB (fAt a b c i) (fAt a b c j)) 2]? = some v := by
      rw [← hsz2]; exact hP
    obtain ⟨_, y, rfl⟩ := fItems_at hP'
    have e : fAt a b c (argBest (fun i j => ltB (fAt a b c i) (fAt a b c j)) 2) = mn3 a b c := by
      unfold mn3
      simp only [argBest, fAt]
      by_cases hba : ltB b a = true
      · by_cases hc : ltB c b = true <;> simp [hba, hc, fAt]
      · by_cases hc : ltB c a = true <;> simp [hba, hc, fAt]
    rw [e]
    exact h h' tk y (F.grownK hold) (N.grown hold)
end
end Mine
namespace Mine
open PySem.Flt
local macro_rules | `(tactic| walk_at "call builtin:max") => `(tactic| (k_extra "MY Rgb1"))
local macro_rules | `(tactic| walk_at "call builtin:min") => `(tactic| (k_extra "MY Rgb2"))
noncomputable def hsvF (r g b : UInt64) : UInt64 × UInt64 × UInt64 :=
  match (Float64.cmp (mn3 r g b) (mx3 r g b) == some Ordering.eq) with
  | true => (0, 0, mx3 r g b)
  | false =>
    let d := Float64.sub (mx3 r g b) (mn3 r g b)
    let rc := Float64.div (Float64.sub (mx3 r g b) r) d
    let gc := Float64.div (Float64.sub (mx3 r g b) g) d
    let bc := Float64.div (Float64.sub (mx3 r g b) b) d
    let h := match (Float64.cmp r (mx3 r g b) == some Ordering.eq) with
      | true => Float64.sub bc gc
      | false => match (Float64.cmp g (mx3 r g b) == some Ordering.eq) with
        | true => Float64.sub (Float64.add 4611686018427387904 rc) bc
        | false => Float64.sub (Float64.add 4616189618054758400 gc) rc
    ((Float64.divmod (Float64.div h 4618441417868443648) 4607182418800017408).2, Float64.div d (mx3 r g b), mx3 r g b)
abbrev FlRes (p : UInt64 × UInt64 × UInt64) (v : Value) (tl : List (Addr × Obj)) : Prop :=
  ∃ D x y z t1 t2 t3, p = (x, y, z) ∧ v = .ref D ∧ tl = [(D, tupOf [.float x t1, .float y t2, .float z t3])]
set_option maxHeartbeats 8000000 in
theorem c_rgb (w : World) (mean : ExcName → Option Value) (mg mb : Str → Option Value) (rest : List (Addr × Obj)) (r g b : UInt64) (tr tg tb : Tok) (h1 : Float64.isZero (mx3 r g b) = false) (h2 : (Float64.cmp (mn3 r g b) (mx3 r g b) == some .eq) = false → Float64.isZero (Float64.sub (mx3 r g b) (mn3 r g b)) = false) :
   Ctr w mean mg mb 38 1 rest [.float r tr, .float g tg, .float b tb] (FlRes (hsvF r g b)) := by
  w_top off
  k_with_none
  k_with "MY Rgb1" => (k_here; (with_reducible show wpAny _ _ (PySem.call (Value.builtin "max") [Value.float _ _, Value.float _ _, Value.float _ _]) _ _ _); (with_unfolding_all refine' max3_floats ?k0 ?k1 ?k2 (fun _ _ _ _ _ => ?_)); (case k0 => with_unfolding_all rfl); (case k1 => k_asm); (case k2 => k_asm); (try dsimp only))
  k_with "MY Rgb2" => (k_here; (with_reducible show wpAny _ _ (PySem.call (Value.builtin "min") [Value.float _ _, Value.float _ _, Value.float _ _]) _ _ _); (with_unfolding_all refine' min3_floats ?k0 ?k1 ?k2 (fun _ _ _ _ _ => ?_)); (case k0 => with_unfolding_all rfl); (case k1 => k_asm); (case k2 => k_asm); (try dsimp only))
  unfold Ctr
  k_fill
  intro dp un gd cn cs a ccd cl outer A₀ base h₀ L m s Q E B F X N T hk hd' hu hret
  refine wpAny_call ?_
  k_dflt cell_enter
  k_steps
  all_goals (
    (with_reducible rename (Float64.cmp (mn3 r g b) (mx3 r g b) == some Ordering.eq) = _ => q1)
    (try (with_reducible rename (Float64.cmp r (mx3 r g b) == some Ordering.eq) = _ => q2))
    (try (with_reducible rename (Float64.cmp g (mx3 r g b) == some Ordering.eq) = _ => q3))
    refine' hret _ [_] _ _ ⟨_, _, _, _, _, _, _, ?e, rfl, rfl⟩ ?F ?N ?o
    (case F => k_asm)
    (case N => k_asm)
    (case e => (unfold hsvF; (try simp only [q1]); (try simp only [q2]); (try simp only [q3]); done))
    (case o => exact ktn_ord1 (by ktn_lt)))
end Mine
namespace Mine
open PySem.Flt
noncomputable def rgbF (fh fs fv : UInt64) : UInt64 × UInt64 × UInt64 :=
  match (Float64.cmp fs 0 == some Ordering.eq) with
  | true => (fv, fv, fv)
  | false =>
    let z := Float64.mul fh 4618441417868443648
    let i := toInt Float64.truncOf z
    let f := Float64.sub z (Float64.ofInt i)
    let p := Float64.mul fv (Float64.sub 4607182418800017408 fs)
    let q := Float64.mul fv (Float64.sub 4607182418800017408 (Float64.mul fs f))
    let t := Float64.mul fv (Float64.sub 4607182418800017408 (Float64.mul fs (Float64.sub 4607182418800017408 f)))
    if i.fmod 6 = 0 then (fv, t, p) else if i.fmod 6 = 1 then (q, fv, p) else if i.fmod 6 = 2 then (p, fv, t)
    else if i.fmod 6 = 3 then (p, q, fv) else if i.fmod 6 = 4 then (t, p, fv) else (fv, p, q)
theorem fmod6 (i : Int) (h0 : i.fmod 6 ≠ 0) (h1 : i.fmod 6 ≠ 1) (h2 : i.fmod 6 ≠ 2) (h3 : i.fmod 6 ≠ 3) (h4 : i.fmod 6 ≠ 4) (h5 : i.fmod 6 ≠ 5) : False := by
  rw [Int.fmod_eq_emod_of_nonneg i (by decide)] at *
  omega
set_option maxHeartbeats 8000000 in
theorem c_hsv (w : World) (mean : ExcName → Option Value) (mg mb : Str → Option Value) (rest : List (Addr × Obj)) (fh fs fv : UInt64) (th ts tv : Tok) (hf : Float64.isFinite (Float64.mul fh 4618441417868443648) = true) (hi : -100 ≤ toInt Float64.truncOf (Float64.mul fh 4618441417868443648) ∧ toInt Float64.truncOf (Float64.mul fh 4618441417868443648) ≤ 100)  :
   Ctr w mean mg mb 45 1 rest [.float fh th, .float fs ts, .float fv tv] (FlRes (rgbF fh fs fv)) := by
  w_top off
  k_with_none
  unfold Ctr
  k_fill
  obtain ⟨hi1, hi2⟩ := hi
  intro dp un gd cn cs a ccd cl outer A₀ base h₀ L m s Q E B F X N T hk hd' hu hret
  refine wpAny_call ?_
  k_dflt cell_enter
  k_steps
  all_goals (
    (try (exfalso; exact fmod6 _ (by assumption) (by assumption) (by assumption) (by assumption) (by assumption) (by assumption)))
    )
  all_goals (
    (with_reducible rename (Float64.cmp fs 0 == some Ordering.eq) = _ => q1)
    refine' hret _ [_] _ _ ⟨_, _, _, _, _, _, _, ?e, rfl, rfl⟩ ?F ?N ?o
    (case F => k_asm)
    (case N => k_asm)
    (case o => exact ktn_ord1 (by ktn_lt))
    (case e => (unfold rgbF; (simp only [q1]); try (first
      | exact if_pos (by assumption)
      | (refine (if_neg (by assumption)).trans ?_; first
        | exact if_pos (by assumption)
        | (refine (if_neg (by assumption)).trans ?_; first
          | exact if_pos (by assumption)
          | (refine (if_neg (by assumption)).trans ?_; first
            | exact if_pos (by assumption)
            | (refine (if_neg (by assumption)).trans ?_; first
              | exact if_pos (by assumption)
              | exact if_neg (by assumption)))))))))
end Mine
namespace Mine
noncomputable def crs (x0 y0 x1 y1 x y : Int) : Int := (x1 - x0) * (y - y0) - (y1 - y0) * (x - x0)
abbrev spotOf (x y : Int) (t u : Tok) : Obj := tupOf [.int x t, .int y u]
set_option maxHeartbeats 8000000 in
theorem c_cross (w : World) (mean : ExcName → Option Value) (mg mb : Str → Option Value) (rest : List (Addr × Obj)) (a1 a2 a3 : Addr) (x0 y0 x1 y1 x y : Int) (t0 u0 t1 u1 t u : Tok) (hx0 : 0 ≤ x0 ∧ x0 ≤ 3) (hy0 : 0 ≤ y0 ∧ y0 ≤ 3) (hx1 : 0 ≤ x1 ∧ x1 ≤ 3) (hy1 : 0 ≤ y1 ∧ y1 ≤ 3) (hx : 0 ≤ x ∧ x ≤ 3) (hy : 0 ≤ y ∧ y ≤ 3) :
   Ctr w mean mg mb 85 1 ((a1, spotOf x0 y0 t0 u0) :: (a2, spotOf x1 y1 t1 u1) :: (a3, spotOf x y t u) :: rest) [.ref a1, .ref a2, .ref a3] (fun v tl => tl = [] ∧ ∃ t, v = .int (crs x0 y0 x1 y1 x y) t) := by
  w_top off
  k_with_none
  obtain ⟨b1, b2⟩ := hx0
  obtain ⟨b3, b4⟩ := hy0
  obtain ⟨b5, b6⟩ := hx1
  obtain ⟨b7, b8⟩ := hy1
  obtain ⟨b9, b10⟩ := hx
  obtain ⟨b11, b12⟩ := hy
  unfold Ctr
  k_fill
  intro dp un gd cn cs a ccd cl outer A₀ base h₀ L m s Q E B F X N T hk hd' hu hret
  refine wpAny_call ?_
  k_dflt cell_enter
  k_steps
  all_goals (
    refine' hret _ [] _ _ ⟨rfl, _, rfl⟩ ?F ?N ?o
    (case F => k_asm)
    (case N => k_asm)
    (case o => exact ktn_ord0))
set_option maxHeartbeats 8000000 in
theorem c_term (w : World) (mean : ExcName → Option Value) (mg mb : Str → Option Value) (news : List (Addr × Obj)) (x : Int) (t : Tok) :
   Ctr w mean mg mb 71 1 news [.int x t] (fun v tl => tl = [] ∧ v = .bool (decide (x < 256))) := by
  w_top off
  k_with_none
  unfold Ctr
  k_fill
  intro dp un gd cn cs a ccd cl outer A₀ base h₀ L m s Q E B F X N T hk hd' hu hret
  refine wpAny_call ?_
  k_dflt cell_enter
  k_steps
  all_goals (
    refine' hret _ [] _ _ ⟨rfl, rfl⟩ ?F ?N ?o
    (case F => k_asm)
    (case N => k_asm)
    (case o => exact ktn_ord0))
set_option maxHeartbeats 8000000 in
theorem c_nont (w : World) (mean : ExcName → Option Value) (mg mb : Str → Option Value) (news : List (Addr × Obj)) (x : Int) (t : Tok) :
   Ctr w mean mg mb 78 1 news [.int x t] (fun v tl => tl = [] ∧ v = .bool (decide (256 ≤ x))) := by
  w_top off
  k_with_none
  unfold Ctr
  k_fill
  intro dp un gd cn cs a ccd cl outer A₀ base h₀ L m s Q E B F X N T hk hd' hu hret
  refine wpAny_call ?_
  k_dflt cell_enter
  k_steps
  all_goals (
    refine' hret _ [] _ _ ⟨rfl, rfl⟩ ?F ?N ?o
    (case F => k_asm)
    (case N => k_asm)
    (case o => exact ktn_ord0))
end Mine
namespace Mine
noncomputable def Halt (P : Prop) : Prop := P
theorem Halt.out {P : Prop} (h : Halt P) : P := h
theorem Halt.in {P : Prop} (h : P) : Halt P := h
theorem nrm3 {m : Str → Option Value} {x y z : Str} {a b c : Value} (hx : m x = some a) (hy : m y = some b) (hz : m z = some c) : m = fun q => if q = x then some a else if q = y then some b else if q = z then some c else m q := by
  funext q
  by_cases h1 : q = x
  · subst h1; simp [hx]
  · by_cases h2 : q = y
    · subst h2; simp [h1, hy]
    · by_cases h3 : q = z
      · subst h3; simp [h1, h2, hz]
      · simp [h1, h2, h3]
theorem nTail {h₀ h : Heap} {L : Addr} {p : Addr × Obj} {l : List (Addr × Obj)} (N : News h₀ L h (p :: l)) : News h₀ L h l := fun q hq => N q (.tail _ hq)
local macro_rules | `(tactic| k_asm) => `(tactic| k_extra "MY asm")
noncomputable def apB : Array UInt8 := #[65, 66, 67, 68, 69, 70, 71, 72, 73, 74, 75, 76, 77, 78, 79, 80]
noncomputable def apL : Nat → Int → List UInt8 → List UInt8
  | 0, _, acc => acc
  | k + 1, y, acc => if y = 0 then acc else apL k (y.fdiv 16) (UInt8.ofNat (65 + (y.fmod 16).toNat) :: acc)
theorem picked_ap {i : Int} (h0 : 0 ≤ i) (h1 : i < 16) : KBy.picked apB (some i) (some (i + 1)) = #[UInt8.ofNat (65 + i.toNat)] := by
  have key : ∀ k : Fin 16, KBy.picked apB (some (k.val : Int)) (some ((k.val : Int) + 1)) = #[UInt8.ofNat (65 + k.val)] := by decide +kernel
  have := key ⟨i.toNat, by omega⟩
  rw [Int.toNat_of_nonneg h0] at this
  exact this
theorem slice_ap {prog : Program} {w : World} {A : Around} {E : Value → Shared → Prop} {s : Shared} {value slice : PySem.Expr} {t : Tok} {h₀ : Heap} {L : Addr} {m : PySem.Str → Option Value} {news : List (Addr × Obj)} {i : Int} {t1 t2 : Tok} {Q : Value → Shared → Prop}
    (hF : Fr h₀ L s.heap m) (hN : News h₀ L s.heap news) (h0 : 0 ≤ i) (h1 : i < 16)
    (h : ∀ h' t' k, Fr h₀ L h' m → News h₀ L h' news → Q (.bytes #[UInt8.ofNat (65 + i.toNat)] t') { s with heap := h', toks := k })
    (hs : subscripted slice false (.bytes apB t) (.ref s.heap.objs.size) = operate [.ref s.heap.objs.size, .bytes apB t] (getItem (.bytes apB t) (.ref s.heap.objs.size)) := by with_unfolding_all rfl)
    (ht : ∀ r, letTemporaryGo value (.bytes apB t) r = pure () := by intro _; with_unfolding_all rfl) :
    wpAny (model prog w) A (subscriptTail value slice (.bytes apB t) (.ref s.heap.objs.size)) Q E { s with heap := s.heap.push { cls := .type "slice", data := .fields #[.int i t1, .int (i + 1) t2, .none] } } := by
  refine KBc.slice_K hF hN rfl (by constructor) (by constructor) (by decide +kernel) (fun h' t' k F' N' _ => ?_) hs ht
  rw [picked_ap h0 h1]
  exact h h' t' k F' N'
theorem fm16 (y : Int) : 0 ≤ y.fmod 16 ∧ y.fmod 16 < 16 := by
  rw [Int.fmod_eq_emod_of_nonneg y (by decide)]
  omega
local macro_rules | `(tactic| walk_at "subscriptTail") => `(tactic| (k_extra "MY Ap1"; k_extra "MY Ap31"; intro h' t' k' F' N'))
local macro_rules | `(tactic| walk_at "binaryOp Add bytes bytes") => `(tactic| (k_extra "MY Ap2"))
theorem ap_step {n : Nat} {y : Int} (acc : List UInt8) (hy0 : 0 ≤ y) (hy1 : y < 16 ^ n) (hne : y ≠ 0) :
    ∃ k, n = k + 1 ∧ 0 ≤ y.fdiv 16 ∧ y.fdiv 16 < 16 ^ k ∧ apL n y acc = apL k (y.fdiv 16) (UInt8.ofNat (65 + (y.fmod 16).toNat) :: acc) := by
  cases n with
  | zero => exfalso; simp at hy1; omega
  | succ k =>
    have e : y.fdiv 16 = y / 16 := Int.fdiv_eq_ediv_of_nonneg y (by decide)
    refine ⟨k, rfl, ?_, ?_, ?_⟩
    · rw [e]; omega
    · rw [e]
      have h2 : y < 16 ^ k * 16 := by rw [← Int.pow_succ]; exact hy1
      omega
    · show (if y = 0 then acc else _) = _
      rw [if_neg hne]
theorem ap_zero {n : Nat} (acc : List UInt8) : apL n 0 acc = acc := by cases n <;> rfl
set_option maxHeartbeats 8000000 in
theorem c_ap (w : World) (mean : ExcName → Option Value) (mg mb : Str → Option Value) (news : List (Addr × Obj)) (x : Int) (t : Tok) (hx : 0 ≤ x ∧ x < 65536) :
   Ctr w mean mg mb 57 1 news [.int x t] (fun v tl => tl = [] ∧ ∃ t, v = .bytes (apL 4 x []).toArray t) := by
  w_top off
  k_with_none
  k_with "MY asm" => (first | with_reducible assumption | assumption | exact nTail (by assumption) | exact nTail (nTail (by assumption)))
  k_with "MY Ap31" => ((with_reducible rename Fr _ _ _ _ => Fz9); (with_reducible rename News _ _ _ _ => Nz9); (refine slice_ap (s := ⟨_, _, _, _, _⟩) Fz9 Nz9 (fm16 _).1 (fm16 _).2 ?_))
  k_with "MY Ap1" => (k_here; (with_reducible show wpAny _ _ (subscriptTail _ _ (Value.bytes apB _) (Value.ref _)) _ _ _))
  k_with "MY Ap2" => (k_here; (with_reducible show wpAny _ _ (binaryOp Operator.Add (Value.bytes _ _) (Value.bytes _ _)) _ _ _); (refine' KBy.add_bytes ?hsz (fun _ _ => ?_)); (case hsz => (simp only [List.size_toArray, List.length_cons, List.length_nil, Array.size_append]; omega)))
  obtain ⟨b1, b2⟩ := hx
  unfold Ctr
  k_fill
  intro dp un gd cn cs a ccd cl outer A₀ base h₀ L m s Q E B F X N T hk hd' hu hret
  refine wpAny_call ?_
  k_dflt cell_enter
  k_with_none
  k_with "MY asm" => (first | with_reducible assumption | assumption | exact nTail (by assumption) | exact nTail (nTail (by assumption)))
  k_with "MY Ap31" => ((with_reducible rename Fr _ _ _ _ => Fz9); (with_reducible rename News _ _ _ _ => Nz9); (refine slice_ap (s := ⟨_, _, _, _, _⟩) Fz9 Nz9 (fm16 _).1 (fm16 _).2 ?_))
  k_with "MY Ap1" => (k_here; (with_reducible show wpAny _ _ (subscriptTail _ _ (Value.bytes apB _) (Value.ref _)) _ _ _))
  k_with "MY Ap2" => (k_here; (with_reducible show wpAny _ _ (binaryOp Operator.Add (Value.bytes _ _) (Value.bytes _ _)) _ _ _); (refine' KBy.add_bytes ?hsz (fun _ _ => ?_)); (case hsz => (simp only [List.size_toArray, List.length_cons, List.length_nil, Array.size_append]; omega)))
  k_with "exec While Name cons nil" => (refine Halt.out ?_)
  k_steps
  unfold Halt
  (rename Fr _ _ _ _ => F1)
  refine While_inv (J := fun n m₁ news₁ => news₁ = news ∧ n ≤ 4 ∧ ∃ y b t1 t2 t3, m₁ (Str.ofString "num") = some (.int y t1) ∧ m₁ (Str.ofString "val") = some (.bytes b t2) ∧ m₁ (Str.ofString "AP") = some (.bytes apB t3) ∧ 0 ≤ y ∧ y < 16 ^ n ∧ b.size + n ≤ 4 ∧ apL n y b.toList = apL 4 x []) (n₀ := 4) (by k_asm) (by k_asm) ⟨rfl, Nat.le_refl 4, _, _, _, _, _, rfl, rfl, rfl, ?_, ?_, ?_, ?_⟩ ?_
  · omega
  · omega
  · decide
  · congr 1
    omega
  · clear F1
    rintro n m₁ news₁ h₁ tk₁ F₁ N₁ ⟨rfl, hn, y, b, t1, t2, t3, e1, e2, e3, hy0, hy1, hb, he⟩
    rw [nrm3 e1 e2 e3] at F₁
    k_steps
    · (with_reducible rename (_ : Int) ≠ 0 => hne)
      obtain ⟨k, rfl, g1, g2, g3⟩ := ap_step b.toList hy0 hy1 hne
      refine' WhileStep.intro (n' := k) ?F ?N (Nat.lt_succ_self k) ⟨rfl, by omega, _, _, _, _, _, ?e1, ?e2, ?e3, g1, g2, ?e4, ?e5⟩
      (case F => k_asm)
      (case N => k_asm)
      (case e1 => with_unfolding_all rfl)
      (case e2 => with_unfolding_all rfl)
      (case e3 => with_unfolding_all rfl)
      (case e4 => (simp only [List.size_toArray, List.length_cons, List.length_nil, Array.size_append]; omega))
      (case e5 => (rw [← he, g3, Array.toList_append]; rfl))
    · (with_reducible rename (_ : Int) = 0 => hz)
      subst hz
      rw [ap_zero] at he
      refine' hret _ [] _ _ ⟨rfl, t2, ?e⟩ ?F ?N ktn_ord0
      (case e => (rw [← he, Array.toArray_toList]))
      (case F => k_asm)
      (case N => k_asm)
end Mine
namespace Mine
open PySem.Sem (wp)
noncomputable def CutPost (J : Shared → Prop) (f : Flow) (s' : Shared) : Prop := f = .next ∧ J s'
theorem execs_cut {M : Model} {A : Around} {env : Env} {E : Value → Shared → Prop} {Q : Flow → Shared → Prop} {pre post : List Stmt} {s : Shared} (J : Shared → Prop)
    (h1 : wpAny M A (execs pre env) (CutPost J) E s) (h2 : ∀ s', J s' → wpAny M A (execs post env) Q E s') :
    wpAny M A (execs (pre ++ post) env) Q E s := fun Γ p hΓ => by
  have key : ∀ (pre : List Stmt) (p : Pos) (s : Shared), wp M Γ (execs pre env) (fun f _ s' => f = .next ∧ J s') (fun e _ s' => E e s') p s → wp M Γ (execs (pre ++ post) env) (fun f _ s' => Q f s') (fun e _ s' => E e s') p s := by
    intro pre
    induction pre with
    | nil => exact fun p s h => h2 s h.2 Γ p hΓ
    | cons st r ih =>
      intro p s h
      rw [execs_cons, Sem.wp_bind'] at h
      rw [List.cons_append, execs_cons, Sem.wp_bind']
      refine Sem.wp_mono M Γ (exec st env) (fun f p' s' hf => ?_) (fun _ _ _ x => x) p s h
      cases f with
      | next => exact ih p' s' hf
      | brk => cases (show Flow.brk = .next ∧ J s' from hf).1
      | cont => cases (show Flow.cont = .next ∧ J s' from hf).1
      | ret v => cases (show Flow.ret v = .next ∧ J s' from hf).1
  exact key pre p s (h1 Γ p hΓ)
noncomputable def MarkA : Prop := True
theorem gen_post {M : Model} {A : Around} {α : Type} {t : Sem α} {Q : α → Shared → Prop} {E : Value → Shared → Prop} {s : Shared}
    (h : ∀ (Q' : α → Shared → Prop) (E' : Value → Shared → Prop), (∀ a s', Q a s' → Q' a s') → MarkA → wpAny M A t Q' E' s) : wpAny M A t Q E s := h Q E (fun _ _ h => h) trivial
theorem newsDup {h₀ h : Heap} {L : Addr} {p : Addr × Obj} {l : List (Addr × Obj)} (N : News h₀ L h l) (hp : p ∈ l) : News h₀ L h (p :: l) := fun q hq => (List.mem_cons.mp hq).elim (fun e => e ▸ N p hp) (N q)
theorem ordOf {D : Addr} {o : Obj} {news : List (Addr × Obj)} (h : ∀ q ∈ news, ∀ p ∈ [(D, o)], q.1 < p.1) : ∀ q ∈ news, q.1 < D := fun q hq => h q hq (D, o) (.head _)

section
variable {prog : Program} {w : World} {A A₀ : Around} {s : Shared} {K : Frag} {f L : Addr} {h₀ base : Heap} {m mg mb : Str → Option Value} {news : List (Addr × Obj)} {p : Program} {loose : List Str} {mean : ExcName → Option Value}
theorem enterR {env : Env} {outer : List Env} {R : Result → Shared → Prop} {name qual : Str} {params : Arguments} {body : List Stmt} {scope : Scope} {dV kV doc pm cdv ct oc : Value} {an od : Option Addr} {osl : Array (Option Value)} {args : Args} {binds : List (Str × Value)}
    (B : Below A₀ base outer h₀) (F : Fr h₀ L s.heap m) (X₀ : K.In h₀) (N : News h₀ L s.heap news) (T : Top p loose mean mg mb h₀) (hA : A.frames = some (env :: outer)) (hf : env.frame = some L) (hke : env.scope.kind = .function)
    (ho : K.lookup f = some ⟨oc, od, .func (fnOf name qual params body scope dV kV doc pm an cdv ct), osl⟩) (hcd : codeIn K cdv qual = true) (hroom : A.depth < recursionLimit)
    (hbind : BindsTo s (fnOf name qual params body scope dV kV doc pm an cdv ct) args binds) (hloc : ∀ y ∈ binds, scope.names.lookup y.1 = some .local)
    (h : ∀ g L' h₁, Fr h₀ L g m → Fr g L' h₁ (fun y => binds.reverse.lookup y) → News g L' h₁ news → Below A base (env :: outer) g → K.In g → Top p loose mean mg mb g →
      (∀ b o, s.heap.get? b = some o → b ∉ news.map (·.1) → g.get? b = some o) →
      wpAny (model prog w) (A.deeper (envOf qual scope L' f cdv)) (execs body (envOf qual scope L' f cdv))
        (fun fl s' => LeaveK h₀ L m g R (match fl with | .ret v => v | _ => .none) s')
        (fun e s' => wpAny (model prog w) (A.deeper (envOf qual scope L' f cdv)) (leaving (envOf qual scope L' f cdv) e) (fun _ s'' => R (.error e) s'') (fun e' s'' => R (.error e') s'') s')
        { s with heap := h₁, toks := s.toks + binds.length })
    (hco : scope.isCoroutine = false) (hgen : scope.isGenerator = false) (hk : scope.kind = .function)
    (hcell : ∀ x ∈ scope.names, x.2 ≠ .cell) : codeAny (model prog w) A (.call (.ref f) args) R s := by
  obtain ⟨FG, BG, st, lv⟩ := groundX (R := R) B F N hA hf hke
  refine codeAny_call_def (fd := fnOf name qual params body scope dV kV doc pm an cdv ct) (body := body) (binds := binds) hroom ((X₀.keeps F.keep) _ _ ho) rfl (T.nolimit.keeps F.keep) (codeRec_of (X₀.keeps F.keep) hcd) rfl hbind hcell hloc (fun h₁ hns hk₁ => ?_) hco hgen hk
  have FC : Fr (hideAll s.heap (news.map (·.1))) s.heap.objs.size h₁ (fun y => binds.reverse.lookup y) := ⟨hns, fun b o e => hk₁ b o (of_hideAll _ e), Nat.le_of_eq (hideAll_size _ _)⟩
  have NC : News (hideAll s.heap (news.map (·.1))) s.heap.objs.size h₁ news := fun p hp => ⟨hk₁ _ _ (N p hp).1, Nat.ne_of_lt (Heap.lt_size (N p hp).1), hideAll_none _ (List.mem_map_of_mem hp)⟩
  exact wpAny_mono (h _ _ h₁ FG FC NC BG (X₀.keeps st) (T.keeps st) fun b o e nb => hideAll_get _ e nb) (fun fl s' hl => lv _ _ hl) fun _ _ y => y
theorem enterRC {env : Env} {outer : List Env} {R : Result → Shared → Prop} {name qual : Str} {params : Arguments} {body : List Stmt} {scope : Scope} {dV kV doc pm cdv ct oc : Value} {an od : Option Addr} {osl : Array (Option Value)} {args : Args} {binds : List (Str × Value)}
    (B : Below A₀ base outer h₀) (F : Fr h₀ L s.heap m) (X₀ : K.In h₀) (N : News h₀ L s.heap news) (T : Top p loose mean mg mb h₀) (hA : A.frames = some (env :: outer)) (hf : env.frame = some L) (hke : env.scope.kind = .function)
    (ho : K.lookup f = some ⟨oc, od, .func (fnOf name qual params body scope dV kV doc pm an cdv ct), osl⟩) (hcd : codeIn K cdv qual = true) (hroom : A.depth < recursionLimit)
    (hbind : BindsTo s (fnOf name qual params body scope dV kV doc pm an cdv ct) args binds) (hkind : (binds.all fun y => scope.names.lookup y.1 == some .local || scope.names.lookup y.1 == some .cell) = true)
    (hnd : ((cellsFrom 0 scope.names []).map (·.1)).Nodup)
    (h : ∀ g L' h₁ tk cells, Fr h₀ L g m → Fr g L' h₁ (bindL (envOfC qual scope L' f cdv).kindOf binds fun _ => none) → News g L' h₁ (cells ++ news) →
      CellsAre (bindC (envOfC qual scope L' f cdv).kindOf binds fun _ => none) (cellsFrom (L' + 1) scope.names []) cells → Below A base (env :: outer) g → K.In g → Top p loose mean mg mb g → (∀ p ∈ news, p.1 < L') →
      (∀ b o, s.heap.get? b = some o → b ∉ news.map (·.1) → g.get? b = some o) →
      wpAny (model prog w) (A.deeper (envOfC qual scope L' f cdv)) (execs body (envOfC qual scope L' f cdv))
        (fun fl s' => LeaveK h₀ L m g R (match fl with | .ret v => v | _ => .none) s')
        (fun e s' => wpAny (model prog w) (A.deeper (envOfC qual scope L' f cdv)) (leaving (envOfC qual scope L' f cdv) e) (fun _ s'' => R (.error e) s'') (fun e' s'' => R (.error e') s'') s')
        { s with heap := h₁, toks := tk })
    (hco : scope.isCoroutine = false) (hgen : scope.isGenerator = false) (hk : scope.kind = .function) : codeAny (model prog w) A (.call (.ref f) args) R s := by
  obtain ⟨FG, BG, st, lv⟩ := groundX (R := R) B F N hA hf hke
  refine codeAny_call_function hroom ((X₀.keeps F.keep) _ _ ho) rfl hco hgen rfl (codeRec_of (X₀.keeps F.keep) hcd) (hbind _ _ _ _ (wpAny_newFunctionEnv_cells hk (kindsX hkind _) fun env' he s' x => ?_))
  subst he
  obtain ⟨h₁, tk, rfl, _⟩ := x.done
  have keep₁ := x.toInCall.keep
  obtain ⟨cells, NC, Y⟩ := Cl.news (h₀ := s.heap) (Nat.le_refl _) fun n c hm => ⟨x.cell n c (lookup_of_mem_nodup (cellsFrom_names scope.names 0 (s.heap.objs.size + 1) [] [] rfl ▸ hnd) hm), x.above n c hm⟩
  have hidden : ∀ b, s.heap.get? b = none → (hideAll s.heap (news.map (·.1))).get? b = none := fun b hb => by
    cases q : (hideAll s.heap (news.map (·.1))).get? b with
    | none => rfl
    | some o => exact absurd ((of_hideAll _ q).symm.trans hb) (fun e => nomatch e)
  have NN : News (hideAll s.heap (news.map (·.1))) s.heap.objs.size h₁ (cells ++ news) := fun p hp => by
    rcases List.mem_append.mp hp with hc | hn
    · exact ⟨(NC p hc).1, (NC p hc).2.1, hidden _ (NC p hc).2.2⟩
    · exact ⟨keep₁ _ _ (N p hn).1, Nat.ne_of_lt (Heap.lt_size (N p hn).1), hideAll_none _ (List.mem_map_of_mem hn)⟩
  refine ⟨(T.nolimit.keeps F.keep).keeps keep₁, codeAny_func (wpAny_mono (h _ s.heap.objs.size h₁ tk cells FG ⟨x.toInCall.ns, fun b o e => keep₁ b o (of_hideAll _ e), Nat.le_of_eq (hideAll_size _ _)⟩ NN Y BG (X₀.keeps st) (T.keeps st) (fun p hp => Heap.lt_size (N p hp).1) fun b o e nb => hideAll_get _ e nb) (fun fl s' hl => lv _ _ hl) fun _ _ y => y)⟩
end

abbrev CtrN (w : World) (mean : ExcName → Option Value) (mg mb : Str → Option Value) (pre : Heap → Prop) (f : Addr) (k : Nat) (args : List (Addr × Obj)) (vs : List Value) (Res : Value → List (Addr × Obj) → Prop) : Prop :=
  ∀ (dp un : Nat) (gd : Option (List Code)) (cn : Str) (cs : Scope) (a : Addr) (ccd : Value) (cl : List (Str × Addr)) (outer : List Env) (A₀ : Around) (base h₀ : Heap) (L : Addr) (m : Str → Option Value) (s : Shared) (Q E : Value → Shared → Prop),
    Below A₀ base outer h₀ → Fr h₀ L s.heap m → (hd.heap_39 w.params).In h₀ → News h₀ L s.heap args → Top hd.view_39 (looseW hd.view_39 [Str.ofString "Flags"]) mean mg mb h₀ → cs.kind = .function → dp + k < recursionLimit → un + 8 * k < cLine → pre base →
    (∀ v tl h' tk', Res v tl → Fr h₀ L h' m → News h₀ L h' (tl ++ args) → (∀ b o, s.heap.get? b = some o → b ∉ args.map (·.1) → h'.get? b = some o) → Q v { s with heap := h', toks := tk' }) →
    wpAny (model PySem.Challenge.rw_tp0006_01.row.prog w) (ktrTop dp un gd cn cs L a ccd cl outer) (call (.ref f) vs) Q E s
theorem newsBack {h₀ h h' : Heap} {L : Addr} {led args tl : List (Addr × Obj)} (N : News h₀ L h led) (NA : News h₀ L h args) (N' : News h₀ L h' (tl ++ args))
    (kp : ∀ b o, h.get? b = some o → b ∉ args.map (·.1) → h'.get? b = some o) : News h₀ L h' (tl ++ led) := by
  intro p hp
  rcases List.mem_append.mp hp with ht | hl
  · exact N' p (List.mem_append.mpr (.inl ht))
  · refine ⟨?_, (N p hl).2⟩
    by_cases hm : p.1 ∈ args.map (·.1)
    · obtain ⟨q, hq, e⟩ := List.mem_map.mp hm
      have h1 := (NA q hq).1
      have h2 := (N p hl).1
      rw [e] at h1
      have h3 := (N' q (List.mem_append.mpr (.inr hq))).1
      rw [e] at h3
      rw [h3]
      exact h1.symm.trans h2
    · exact kp _ _ (N p hl).1 hm
end Mine
namespace Mine
local macro_rules | `(tactic| walk_at "storeName") => `(tactic| dsimp only)
local macro_rules | `(tactic| walk_at "eval BinOp") => `(tactic| dsimp only)
local macro_rules | `(tactic| walk_at "MY none") => `(tactic| fail)
local macro_rules | `(tactic| k_asm) => `(tactic| k_extra "MY asm")
local macro_rules | `(tactic| walk_at "MY enterR") => `(tactic| (k_extra "MY Cor1"; intro g' L' h' FG' F' N' B' X' T' gk'; (try dsimp only); (try k_lift B'); (try k_fold)))
theorem cor_cases {lvs : List Value} {ns : List Int} (h : IntsAre lvs ns) (hn : ns.length ≤ 63) :
    lvs = [] ∨ (∃ a t, lvs = [.int a t]) ∨ (∃ a t b u, lvs = [.int a t, .int b u]) ∨ ∃ a t b u c x r, lvs = .int a t :: .int b u :: .int c x :: r ∧ r.length ≤ 60 := by
  cases h with
  | nil => exact .inl rfl
  | cons a t h => cases h with
    | nil => exact .inr (.inl ⟨a, t, rfl⟩)
    | cons b u h => cases h with
      | nil => exact .inr (.inr (.inl ⟨a, t, b, u, rfl⟩))
      | cons c x h =>
        refine .inr (.inr (.inr ⟨a, t, b, u, c, x, _, rfl, ?_⟩))
        rw [h.length]
        simpa using hn
theorem pick3 (a b c : Value) (r : List Value) : (slicePick (a :: b :: c :: r).toArray none (some 3) none).toList = [a, b, c] := by
  rw [kms_pick_eq]
  have h3 : min (Int.toNat 3) ((a :: b :: c :: r).length) = 3 := by simp only [List.length_cons]; omega
  show ((a :: b :: c :: r).drop 0).take (min (Int.toNat 3) ((a :: b :: c :: r).length) - 0) = _
  rw [h3]
  rfl
theorem size3 (a b c : Value) (r : List Value) (h : r.length ≤ 60) : (a :: b :: c :: r).toArray.size ≤ sizeLine := by
  rw [sizeLine_eq]
  simp only [List.size_toArray, List.length_cons]
  omega
local macro_rules | `(tactic| walk_at "call ref") => `(tactic| (k_extra "MY Cor2"; k_extra "MY Cor61"))
theorem nrm1 {m : Str → Option Value} {x : Str} {a : Value} (hx : m x = some a) : m = fun q => if q = x then some a else m q := by
  funext q
  by_cases h1 : q = x
  · subst h1; simp [hx]
  · simp [h1]
theorem fm4 {x : Int} (_ : 0 ≤ x) (_ : x < 16) : 0 ≤ x.fmod 4 ∧ x.fmod 4 ≤ 3 ∧ 0 ≤ x.fdiv 4 ∧ x.fdiv 4 ≤ 3 := by
  rw [Int.fmod_eq_emod_of_nonneg x (by decide), Int.fdiv_eq_ediv_of_nonneg x (by decide)]
  omega
noncomputable def CorK (g : Heap) (L : Addr) (s s' : Shared) : Prop := ∃ h2 tk m' a b f1 f2 th t0 t1 t2 t3 t4, s' = { s with heap := h2, toks := tk } ∧ Fr g L h2 m' ∧ News g L h2 [(a, spotOf (Int.fmod f1 4) (Int.fdiv f1 4) t0 t1), (b, spotOf (Int.fmod f2 4) (Int.fdiv f2 4) t2 t3)] ∧ m' (Str.ofString "one") = some (.ref a) ∧ m' (Str.ofString "two") = some (.ref b) ∧ m' (Str.ofString "third") = some (.int th t4) ∧ 0 ≤ f1 ∧ f1 < 16 ∧ 0 ≤ f2 ∧ f2 < 16 ∧ f1 ≠ f2 ∧ 0 ≤ th ∧ th < 16
theorem corK_in {g : Heap} {L : Addr} {s : Shared} {h2 : Heap} {tk : Nat} {m' : Str → Option Value} {a b : Addr} {f1 f2 th : Int} {t0 t1 t2 t3 t4 : Tok} {l : List (Addr × Obj)} (F : Fr g L h2 m') (N : News g L h2 l)
   (m1 : (a, spotOf (Int.fmod f1 4) (Int.fdiv f1 4) t0 t1) ∈ l) (m2 : (b, spotOf (Int.fmod f2 4) (Int.fdiv f2 4) t2 t3) ∈ l) (e1 : m' (Str.ofString "one") = some (.ref a)) (e2 : m' (Str.ofString "two") = some (.ref b)) (e3 : m' (Str.ofString "third") = some (.int th t4))
   (hb : 0 ≤ f1 ∧ f1 < 16 ∧ 0 ≤ f2 ∧ f2 < 16 ∧ f1 ≠ f2 ∧ 0 ≤ th ∧ th < 16) :
    CutPost (CorK g L s) .next { s with heap := h2, toks := tk } := ⟨rfl, h2, tk, m', a, b, f1, f2, th, t0, t1, t2, t3, t4, rfl, F, fun p hp => (List.mem_cons.mp hp).elim (fun e => e ▸ N _ m1) (fun hp => N p ((List.mem_singleton.mp hp) ▸ m2)), e1, e2, e3, hb⟩
theorem cor_rem (d0 d1 d2 : Int) : 0 ≤ d0.fmod 16 ∧ d0.fmod 16 < 16 ∧ 0 ≤ (d0.fmod 16 + 1 + d1.fmod 15).fmod 16 ∧ (d0.fmod 16 + 1 + d1.fmod 15).fmod 16 < 16 ∧ d0.fmod 16 ≠ (d0.fmod 16 + 1 + d1.fmod 15).fmod 16 ∧ 0 ≤ d2.fmod 16 ∧ d2.fmod 16 < 16 := by
  rw [Int.fmod_eq_emod_of_nonneg d0 (by decide), Int.fmod_eq_emod_of_nonneg d1 (by decide), Int.fmod_eq_emod_of_nonneg d2 (by decide), Int.fmod_eq_emod_of_nonneg _ (by decide)]
  omega
noncomputable def stuckC (f1 f2 th : Int) : Bool := crs (f1.fmod 4) (f1.fdiv 4) (f2.fmod 4) (f2.fdiv 4) (th.fmod 4) (th.fdiv 4) == 0
noncomputable def cntC : Nat → Int → Int → Int → Nat
  | 0, _, _, _ => 0
  | k + 1, f1, f2, th => if stuckC f1 f2 th = true then cntC k f1 f2 ((th + 1).fmod 16) + 1 else 0
theorem cnt_down {f1 f2 th : Int} (h1 : 0 ≤ f1) (h2 : f1 < 16) (h3 : 0 ≤ f2) (h4 : f2 < 16) (h5 : f1 ≠ f2) (h6 : 0 ≤ th) (h7 : th < 16) (hs : crs (f1.fmod 4) (f1.fdiv 4) (f2.fmod 4) (f2.fdiv 4) (th.fmod 4) (th.fdiv 4) = 0) :
    cntC 6 f1 f2 ((th + 1).fmod 16) < cntC 6 f1 f2 th := by
  have key : ∀ a b c : Fin 16, a ≠ b → stuckC (a.val : Int) (b.val : Int) (c.val : Int) = true → cntC 6 (a.val : Int) (b.val : Int) (((c.val : Int) + 1).fmod 16) < cntC 6 (a.val : Int) (b.val : Int) (c.val : Int) := by decide +kernel
  have := key ⟨f1.toNat, by omega⟩ ⟨f2.toNat, by omega⟩ ⟨th.toNat, by omega⟩
  simp only [Int.toNat_of_nonneg h1, Int.toNat_of_nonneg h3, Int.toNat_of_nonneg h6] at this
  refine this (fun e => h5 ?_) ?_
  · have := congrArg Fin.val e
    simp only at this
    omega
  · unfold stuckC
    rw [hs]
    rfl
theorem crs_swap (x0 y0 x1 y1 x y : Int) : crs x1 y1 x0 y0 x y = - crs x0 y0 x1 y1 x y := by
  unfold crs
  grind
noncomputable def CorRes (v : Value) (tl : List (Addr × Obj)) : Prop := ∃ D a b c x0 y0 x1 y1 x2 y2 t0 u0 t1 u1 t2 u2, v = .ref D ∧ tl = [(D, lstOf [.ref a, .ref b, .ref c]), (a, spotOf x0 y0 t0 u0), (b, spotOf x1 y1 t1 u1), (c, spotOf x2 y2 t2 u2)] ∧
  (0 ≤ x0 ∧ x0 ≤ 3) ∧ (0 ≤ y0 ∧ y0 ≤ 3) ∧ (0 ≤ x1 ∧ x1 ≤ 3) ∧ (0 ≤ y1 ∧ y1 ≤ 3) ∧ (0 ≤ x2 ∧ x2 ≤ 3) ∧ (0 ≤ y2 ∧ y2 ≤ 3) ∧ 0 < crs x0 y0 x1 y1 x2 y2
theorem newsFour {h₀ h : Heap} {L : Addr} {l : List (Addr × Obj)} {p q r t : Addr × Obj} (N : News h₀ L h l) (h1 : p ∈ l) (h2 : q ∈ l) (h3 : r ∈ l) (h4 : t ∈ l) : News h₀ L h [p, q, r, t] := by
  intro x hx
  rcases List.mem_cons.mp hx with rfl | hx
  · exact N _ h1
  rcases List.mem_cons.mp hx with rfl | hx
  · exact N _ h2
  rcases List.mem_cons.mp hx with rfl | hx
  · exact N _ h3
  · rw [List.mem_singleton.mp hx]; exact N _ h4
noncomputable def CorJ (g : Heap) (L : Addr) (s s' : Shared) : Prop := ∃ h2 tk m' D d0 d1 d2 t0 t1 t2, s' = { s with heap := h2, toks := tk } ∧ Fr g L h2 m' ∧ News g L h2 [(D, lstOf [.int d0 t0, .int d1 t1, .int d2 t2])] ∧ m' (Str.ofString "drawn") = some (.ref D)
theorem corJ_in {g : Heap} {L : Addr} {s : Shared} {h2 : Heap} {tk : Nat} {m' : Str → Option Value} {D : Addr} {d0 d1 d2 : Int} {t0 t1 t2 : Tok} {l : List (Addr × Obj)} (F : Fr g L h2 m') (N : News g L h2 ((D, lstOf [.int d0 t0, .int d1 t1, .int d2 t2]) :: l)) (e : m' (Str.ofString "drawn") = some (.ref D)) :
    CutPost (CorJ g L s) .next { s with heap := h2, toks := tk } := ⟨rfl, h2, tk, m', D, d0, d1, d2, t0, t1, t2, rfl, F, fun p hp => N p ((List.mem_singleton.mp hp) ▸ .head _), e⟩
set_option maxHeartbeats 8000000 in
theorem c_cor (w : World) (mean : ExcName → Option Value) (mg mb : Str → Option Value) (l : Addr) (lvs : List Value) (ns : List Int) (hI : IntsAre lvs ns) (hn : ns.length ≤ 63) :
   CtrN w mean mg mb (fun b => b.IsList l lvs.toArray) 90 3 [] [.ref l] CorRes := by
  w_top off
  k_with_none
  k_with "MY Cor61" => (intro v' tl' h' tk' hres' F' N' ho'; (refine Exists.elim hres'.2 ?_); intro t' hv'; (have htl' := hres'.1); subst hv' htl'; clear hres' ho'; (simp only [List.nil_append] at N'); (replace N' := nTail (nTail (nTail N'))); (try dsimp only); (try k_fold))
  k_with "MY asm" => (first | with_reducible assumption | assumption | exact nTail (by assumption) | exact nTail (nTail (by assumption)))
  k_with "MY Cor1" => (refine' enterR ?k1 ?k2 ?k3 ?k4 ?k5 ?kA ?kF ?kK ?k6 ?k7 ?k8 ?k9 ?kB ?_ ?c2 ?c3 ?c4 ?c5; (case kA => exact rfl); (case kF => exact rfl); (case kK => assumption); (case k1 => k_asm); (case k2 => k_asm); (case k3 => k_asm); (case k4 => k_asm); (case k5 => k_asm); (case k6 => k_is); (case k7 => k_is); (case k8 => ktr_room); (case k9 => exact BindsTo.of_eq rfl); (case c5 => decide); (case kB => exact locs rfl); (case c2 => exact rfl); (case c3 => exact rfl); (case c4 => exact rfl); k_whole)
  k_with "MY Cor2" => (k_here; k_dflt (refine' (c_cross _ _ _ _ _ _ _ _ _ _ _ _ _ _ _ _ _ _ _ _ ?h1 ?h2 ?h3 ?h4 ?h5 ?h6) _ _ _ _ _ _ _ _ _ _ _ _ _ _ _ _ _ ?k1 ?k2 ?k3 ?k4 ?k5 ?kK ?kd ?ku ?_; (case k4 => exact newsDup (newsDup (newsDup (by k_asm) (by k_mem)) (by k_mem)) (by k_mem)); (case k1 => k_asm); (case k2 => k_asm); (case k3 => k_asm); (case k5 => k_asm); (case kK => first | exact rfl | assumption); (case kd => ktr_room); (case ku => ktr_units); (case h1 => (constructor <;> omega)); (case h2 => (constructor <;> omega)); (case h3 => (constructor <;> omega)); (case h4 => (constructor <;> omega)); (case h5 => (constructor <;> omega)); (case h6 => (constructor <;> omega))))
  unfold CtrN
  k_fill
  intro dp un gd cn cs a ccd cl outer A₀ base h₀ L m s Q E B F X N T hk hd' hu hlist hret
  refine wpAny_call ?_
  k_dflt (walk_at "MY enterR")
  rename_i g' L' h' FG' F' N' B' X' T' gk'
  k_with_none
  k_with "MY Cor61" => (intro v' tl' h' tk' hres' F' N' ho'; (refine Exists.elim hres'.2 ?_); intro t' hv'; (have htl' := hres'.1); subst hv' htl'; clear hres' ho'; (simp only [List.nil_append] at N'); (replace N' := nTail (nTail (nTail N'))); (try dsimp only); (try k_fold))
  k_with "MY asm" => (first | with_reducible assumption | assumption | exact nTail (by assumption) | exact nTail (nTail (by assumption)))
  k_with "MY Cor1" => (refine' enterR ?k1 ?k2 ?k3 ?k4 ?k5 ?kA ?kF ?kK ?k6 ?k7 ?k8 ?k9 ?kB ?_ ?c2 ?c3 ?c4 ?c5; (case kA => exact rfl); (case kF => exact rfl); (case kK => assumption); (case k1 => k_asm); (case k2 => k_asm); (case k3 => k_asm); (case k4 => k_asm); (case k5 => k_asm); (case k6 => k_is); (case k7 => k_is); (case k8 => ktr_room); (case k9 => exact BindsTo.of_eq rfl); (case c5 => decide); (case kB => exact locs rfl); (case c2 => exact rfl); (case c3 => exact rfl); (case c4 => exact rfl); k_whole)
  k_with "MY Cor2" => (k_here; k_dflt (refine' (c_cross _ _ _ _ _ _ _ _ _ _ _ _ _ _ _ _ _ _ _ _ ?h1 ?h2 ?h3 ?h4 ?h5 ?h6) _ _ _ _ _ _ _ _ _ _ _ _ _ _ _ _ _ ?k1 ?k2 ?k3 ?k4 ?k5 ?kK ?kd ?ku ?_; (case k4 => exact newsDup (newsDup (newsDup (by k_asm) (by k_mem)) (by k_mem)) (by k_mem)); (case k1 => k_asm); (case k2 => k_asm); (case k3 => k_asm); (case k5 => k_asm); (case kK => first | exact rfl | assumption); (case kd => ktr_room); (case ku => ktr_units); (case h1 => (constructor <;> omega)); (case h2 => (constructor <;> omega)); (case h3 => (constructor <;> omega)); (case h4 => (constructor <;> omega)); (case h5 => (constructor <;> omega)); (case h6 => (constructor <;> omega))))
  refine execs_cut (pre := [_, _]) (CorJ g' L' s) ?_ ?_
  · rcases cor_cases hI hn with rfl | ⟨a, t, rfl⟩ | ⟨a, t, b, u, rfl⟩ | ⟨a, t, b, u, c, x, r, rfl, hr⟩
    · k_steps
      exact corJ_in (by k_asm) (by k_asm) (by with_unfolding_all rfl)
    · k_steps
      exact corJ_in (by k_asm) (by k_asm) (by with_unfolding_all rfl)
    · k_steps
      exact corJ_in (by k_asm) (by k_asm) (by with_unfolding_all rfl)
    · k_with "subscriptTail Name Slice ref ref" => (k_dflt (refine' kmk_slice_lit ?F ?N ?l ?p ?q (pick3 _ _ _ r) ?_ ?s ?t (size3 _ _ _ r hr); (case F => k_asm); (case N => k_asm); (case l => kmk_list); (case p => kmk_part); (case q => kmk_part); (case s => with_unfolding_all rfl); (case t => kmk_pure)); intro D' h' F' N' l1; (try k_lt l1); (try k_sweep))
      k_steps
      exact corJ_in (by k_asm) (by k_asm) (by with_unfolding_all rfl)
  · rintro s' ⟨h2, tk, m', D, d0, d1, d2, t0, t1, t2, rfl, F2, N2, e2⟩
    rw [nrm1 e2] at F2
    refine execs_cut (pre := [_, _, _, _, _]) (CorK g' L' s) ?_ ?_
    · k_steps
      refine' corK_in ?F ?N ?m1 ?m2 ?e1 ?e2 ?e3 (cor_rem _ _ _)
      (case F => k_asm)
      (case N => k_asm)
      (case e1 => with_unfolding_all rfl)
      (case e2 => with_unfolding_all rfl)
      (case e3 => with_unfolding_all rfl)
      (case m1 => k_mem)
      (case m2 => k_mem)
    · clear F2 N2
      rintro s' ⟨h3, tk3, m3, a3, b3, f1, f2, th, t30, t31, t32, t33, t34, rfl, F3, N3, e31, e32, e33, hb1, hb2, hb3, hb4, hb5, hb6, hb7⟩
      rw [nrm3 e31 e32 e33] at F3
      k_with "exec While Compare cons nil" => (refine Halt.out ?_)
      k_steps
      unfold Halt
      refine While_inv (J := fun n m₁ news₁ => news₁ = [(a3, spotOf (Int.fmod f1 4) (Int.fdiv f1 4) t30 t31), (b3, spotOf (Int.fmod f2 4) (Int.fdiv f2 4) t32 t33)] ∧ ∃ th t, m₁ (Str.ofString "one") = some (.ref a3) ∧ m₁ (Str.ofString "two") = some (.ref b3) ∧ m₁ (Str.ofString "third") = some (.int th t) ∧ 0 ≤ th ∧ th < 16 ∧ n = cntC 6 f1 f2 th) (n₀ := cntC 6 f1 f2 th) (by k_asm) (by k_asm) ⟨rfl, th, t34, rfl, rfl, rfl, hb6, hb7, rfl⟩ ?_
      clear F3 N3 e31 e32 e33 hb6 hb7
      rintro n m₁ news₁ h₁ tk₁ F₁ N₁ ⟨rfl, th, t, e1, e2, e3, hb6, hb7, rfl⟩
      rw [nrm3 e1 e2 e3] at F₁
      obtain ⟨q1, q2, q3, q4⟩ := fm4 hb1 hb2
      obtain ⟨q5, q6, q7, q8⟩ := fm4 hb3 hb4
      obtain ⟨q9, q10, q11, q12⟩ := fm4 hb6 hb7
      k_steps
      · refine' WhileStep.intro ?F ?N (cnt_down hb1 hb2 hb3 hb4 hb5 hb6 hb7 (by assumption)) ⟨rfl, _, _, ?e1, ?e2, ?e3, (fm16 _).1, (fm16 _).2, rfl⟩
        (case F => k_asm)
        (case N => k_asm)
        (case e1 => with_unfolding_all rfl)
        (case e2 => with_unfolding_all rfl)
        (case e3 => with_unfolding_all rfl)
      · have hpos := crs_swap (f1.fmod 4) (f1.fdiv 4) (f2.fmod 4) (f2.fdiv 4) (th.fmod 4) (th.fdiv 4)
        refine' hret _ _ _ _ ⟨_, _, _, _, _, _, _, _, _, _, _, _, _, _, _, _, rfl, rfl, ?b1, ?b2, ?b3, ?b4, ?b5, ?b6, ?pos⟩ ?F ?N ?kp
        (case N => exact newsFour (by k_asm) (by k_mem) (by k_mem) (by k_mem) (by k_mem))
        (case F => k_asm)
        (case kp => exact fun b o e nb => Fr.keep (by assumption) b o (gk' b o e nb))
        (case pos => omega)
        all_goals (constructor <;> omega)
      · refine' hret _ _ _ _ ⟨_, _, _, _, _, _, _, _, _, _, _, _, _, _, _, _, rfl, rfl, ?z1, ?z2, ?z3, ?z4, ?z5, ?z6, ?zos⟩ ?F ?N ?kp
        (case N => exact newsFour (by k_asm) (by k_mem) (by k_mem) (by k_mem) (by k_mem))
        (case F => k_asm)
        (case kp => exact fun b o e nb => Fr.keep (by assumption) b o (gk' b o e nb))
        (case zos => omega)
        all_goals (constructor <;> omega)
end Mine
namespace Mine
noncomputable def reCode : Array Nat := #[14, 4, 0, 8, 4294967295, 24, 5, 0, 4294967295, 2, 1, 16, 70, 16, 76, 16, 65, 16, 71, 16, 83, 16, 32, 16, 40, 17, 0, 24, 6, 0, 4294967295, 20, 41, 1, 17, 1, 16, 41, 1]
noncomputable def reText (a b c d : Nat) : Array Nat := #[42, 32, 49, 32, 70, 69, 84, 67, 72, 32, 40, 70, 76, 65, 71, 83, 32, 40, 32, 66, a, 32, 66, b, 32, 66, c, 32, 66, d, 41, 41]
open Sre in
theorem runFor_done (m : M) (h : m.outcome.isSome = true) : ∀ n, M.runFor n m = m
  | 0 => rfl
  | n + 1 => by show (if m.outcome.isSome = true then m else _) = m; rw [if_pos h]
open Sre in
theorem runFor_add (k : Nat) : ∀ (n : Nat) (m : M), M.runFor (n + k) m = M.runFor k (M.runFor n m)
  | 0, m => by rw [Nat.zero_add]; rfl
  | n + 1, m => by
    rw [Nat.succ_add]
    show (if m.outcome.isSome = true then m else _) = M.runFor k (if m.outcome.isSome = true then m else _)
    by_cases h : m.outcome.isSome = true
    · rw [if_pos h, if_pos h, runFor_done m h]
    · rw [if_neg h, if_neg h]
      exact runFor_add k n m.step
noncomputable def Reach (n : Nat) (m r : Sre.M) : Prop := ∃ k, k ≤ n ∧ Sre.M.runFor k m = r
theorem Reach.trans {a b : Nat} {m r t : Sre.M} (h1 : Reach a m r) (h2 : Reach b r t) : Reach (a + b) m t := by
  obtain ⟨k, hk, e⟩ := h1
  obtain ⟨l, hl, f⟩ := h2
  exact ⟨k + l, by omega, by rw [runFor_add, e, f]⟩
theorem Reach.full {a n : Nat} {m r : Sre.M} (h1 : Reach a m r) (hn : a ≤ n) (hr : r.outcome.isSome = true) : Sre.M.runFor n m = r := by
  obtain ⟨k, hk, e⟩ := h1
  have : n = k + (n - k) := by omega
  rw [this, runFor_add, e, runFor_done r hr]
open Sre in
theorem run_any (T : Array Nat) (s : Sre.Seen) : ∀ (n p f : Nat), (∀ q, p ≤ q → q < p + n → T.getD q 0 ≠ 10) → Sre.run reCode T 9 n p f s = .ok (f + n, s)
  | 0, p, f, _ => rfl
  | n + 1, p, f, h => by
    have e : Sre.accepts reCode 9 (T.getD p 0) s = .ok (T.getD p 0 != 10, s) := rfl
    have h0 : (T.getD p 0 != 10) = true := by simpa using h p (Nat.le_refl _) (by omega)
    unfold Sre.run
    rw [e, h0]
    show Sre.run reCode T 9 n (p + 1) (f + 1) s = _
    rw [run_any T s n (p + 1) (f + 1) fun q h1 h2 => h q (by omega) (by omega)]
    congr 2
    omega
open Sre in
theorem run_not (T : Array Nat) (s : Sre.Seen) : ∀ (k n p f : Nat), (∀ q, p ≤ q → q < p + k → T.getD q 0 ≠ 41) → T.getD (p + k) 0 = 41 → k < n → Sre.run reCode T 31 n p f s = .ok (f + k, s)
  | 0, n + 1, p, f, _, h1, _ => by
    have e : Sre.accepts reCode 31 (T.getD p 0) s = .ok (T.getD p 0 != 41, s) := rfl
    have h0 : (T.getD p 0 != 41) = false := by simpa using h1
    unfold Sre.run
    rw [e, h0]
    rfl
  | k + 1, n + 1, p, f, h, h1, hk => by
    have e : Sre.accepts reCode 31 (T.getD p 0) s = .ok (T.getD p 0 != 41, s) := rfl
    have h0 : (T.getD p 0 != 41) = true := by simpa using h p (Nat.le_refl _) (by omega)
    unfold Sre.run
    rw [e, h0]
    show Sre.run reCode T 31 n (p + 1) (f + 1) s = _
    rw [run_not T s k n (p + 1) (f + 1) (fun q h1 h2 => h q (by omega) (by omega)) (by rw [← h1]; congr 1; omega) (by omega)]
    congr 2
    omega
open Sre in
theorem exec_rep (m : M) (n : Nat) (seen' : Sre.Seen) (h0 : ops[m.word 0]? = some .REPEAT_ONE) (hl : ¬ ((m.word 2 : Int) > (m.lim : Int) - m.pos))
    (hr : Sre.run m.code m.text (m.pc + 4) (min (m.word 3) ((m.lim : Int) - m.pos).toNat) m.pos 0 ((m.seen.add (m.word 0)).add (m.word 4)) = .ok (n, seen')) (hn : ¬ n < m.word 2) :
    m.exec = ({ m with seen := seen', pos := m.pos + n } : M).afterRun .giveBack n (m.keep m.inner.isSome) := by
  have hl' : ¬ ((m.lim : Int) - m.pos < (m.word 2 : Int)) := hl
  unfold M.exec
  simp only [M.word] at h0 hl' hr hn ⊢
  simp only [h0, gt_iff_lt, hl', if_false, Bool.false_eq_true, hr, hn]
  rfl
open Sre in
noncomputable def mS (T : Array Nat) (p : Nat) (sn : Sre.Seen) : M :=
  { code := reCode, text := T, lim := 32, start := 0, pc := 11, pos := p, handed := p, marks := #[none, none],
    frames := [{ wait := .giveBack, pc := 5, pos := p, outermost := true, count := p, kept := { lastmark := -1, lastindex := -1, whole := false, marks := #[] } }], weight := 1, seen := sn }
open Sre in
theorem seg_start (T : Array Nat) (h : ∀ q, 0 ≤ q → q < 0 + 32 → T.getD q 0 ≠ 10) : Reach 1 (forMatch reCode T 1 0 32 false false) (mS T 32 ((Seen.add (Seen.add {} 14) 24).add 2)) := by
  refine ⟨1, Nat.le_refl 1, ?_⟩
  show M.exec (forMatch reCode T 1 0 32 false false) = _
  rw [exec_rep (forMatch reCode T 1 0 32 false false) 32 ((Seen.add (Seen.add {} 14) 24).add 2) (by kernel_rfl) (show ¬ (((0 : Nat) : Int) > ((32 : Nat) : Int) - ((0 : Nat) : Int)) by decide) (run_any T _ 32 0 0 h) (show ¬ 32 < 0 by decide)]
  kernel_rfl
noncomputable def okL (x : Nat) : Prop := 65 ≤ x ∧ x ≤ 80
theorem okL_cases {x : Nat} (h : okL x) : x = 70 ∨ x = 65 ∨ x = 66 ∨ x = 67 ∨ x = 68 ∨ x = 69 ∨ x = 71 ∨ x = 72 ∨ x = 73 ∨ x = 74 ∨ x = 75 ∨ x = 76 ∨ x = 77 ∨ x = 78 ∨ x = 79 ∨ x = 80 := by
  obtain ⟨h1, h2⟩ := h
  have key : ∀ k : Fin 16, 65 + k.val = 70 ∨ 65 + k.val = 65 ∨ 65 + k.val = 66 ∨ 65 + k.val = 67 ∨ 65 + k.val = 68 ∨ 65 + k.val = 69 ∨ 65 + k.val = 71 ∨ 65 + k.val = 72 ∨ 65 + k.val = 73 ∨ 65 + k.val = 74 ∨ 65 + k.val = 75 ∨ 65 + k.val = 76 ∨ 65 + k.val = 77 ∨ 65 + k.val = 78 ∨ 65 + k.val = 79 ∨ 65 + k.val = 80 := by decide
  have := key ⟨x - 65, by omega⟩
  have e : 65 + (x - 65) = x := by omega
  simp only [e] at this
  exact this
theorem Reach.one {m r : Sre.M} (h : m.outcome = none) (e : m.step = r) : Reach 1 m r := ⟨1, Nat.le_refl 1, by
  show (if m.outcome.isSome = true then m else _) = r
  rw [h]
  exact e⟩
theorem Reach.le {a b : Nat} {m r : Sre.M} (h : Reach a m r) (hab : a ≤ b) : Reach b m r := by
  obtain ⟨k, hk, e⟩ := h
  exact ⟨k, by omega, e⟩
theorem seg2 {T : Array Nat} {p : Nat} {sn : Sre.Seen} (e1 : (mS T p sn).step = { mS T p (sn.add 16) with answer := some false }) (e2 : ({ mS T p (sn.add 16) with answer := some false } : Sre.M).step = mS T (p - 1) (sn.add 16)) : ∃ sn', Reach 3 (mS T p sn) (mS T (p - 1) sn') :=
  ⟨_, ((Reach.one rfl e1).trans (Reach.one rfl e2)).le (by omega)⟩
theorem seg3 {T : Array Nat} {p : Nat} {sn : Sre.Seen} (e1 : (mS T p sn).step = { mS T p (sn.add 16) with pc := 13, pos := p + 1 }) (e2 : ({ mS T p (sn.add 16) with pc := 13, pos := p + 1 } : Sre.M).step = { mS T p ((sn.add 16).add 16) with pc := 13, pos := p + 1, answer := some false })
    (e3 : ({ mS T p ((sn.add 16).add 16) with pc := 13, pos := p + 1, answer := some false } : Sre.M).step = mS T (p - 1) ((sn.add 16).add 16)) :
    ∃ sn', Reach 3 (mS T p sn) (mS T (p - 1) sn') := ⟨_, (((Reach.one rfl e1).trans (Reach.one rfl e2)).trans (Reach.one rfl e3)).le (by omega)⟩
theorem seg_d (sn : Sre.Seen) (a b c : Nat) {d : Nat} (h : okL d) : ∃ sn', Reach 3 (mS (reText a b c d) 29 sn) (mS (reText a b c d) 28 sn') := by
  rcases okL_cases h with rfl | rfl | rfl | rfl | rfl | rfl | rfl | rfl | rfl | rfl | rfl | rfl | rfl | rfl | rfl | rfl
  · exact seg3 (by kernel_rfl) (by kernel_rfl) (by kernel_rfl)
  all_goals exact seg2 (by kernel_rfl) (by kernel_rfl)
theorem seg_c (sn : Sre.Seen) (a b d : Nat) {c : Nat} (h : okL c) : ∃ sn', Reach 3 (mS (reText a b c d) 26 sn) (mS (reText a b c d) 25 sn') := by
  rcases okL_cases h with rfl | rfl | rfl | rfl | rfl | rfl | rfl | rfl | rfl | rfl | rfl | rfl | rfl | rfl | rfl | rfl
  · exact seg3 (by kernel_rfl) (by kernel_rfl) (by kernel_rfl)
  all_goals exact seg2 (by kernel_rfl) (by kernel_rfl)
theorem seg_b (sn : Sre.Seen) (a c d : Nat) {b : Nat} (h : okL b) : ∃ sn', Reach 3 (mS (reText a b c d) 23 sn) (mS (reText a b c d) 22 sn') := by
  rcases okL_cases h with rfl | rfl | rfl | rfl | rfl | rfl | rfl | rfl | rfl | rfl | rfl | rfl | rfl | rfl | rfl | rfl
  · exact seg3 (by kernel_rfl) (by kernel_rfl) (by kernel_rfl)
  all_goals exact seg2 (by kernel_rfl) (by kernel_rfl)
theorem seg_a (sn : Sre.Seen) (b c d : Nat) {a : Nat} (h : okL a) : ∃ sn', Reach 3 (mS (reText a b c d) 20 sn) (mS (reText a b c d) 19 sn') := by
  rcases okL_cases h with rfl | rfl | rfl | rfl | rfl | rfl | rfl | rfl | rfl | rfl | rfl | rfl | rfl | rfl | rfl | rfl
  · exact seg3 (by kernel_rfl) (by kernel_rfl) (by kernel_rfl)
  all_goals exact seg2 (by kernel_rfl) (by kernel_rfl)
theorem seg_32 (sn : Sre.Seen) (a b c d : Nat) : ∃ sn', Reach 3 (mS (reText a b c d) 32 sn) (mS (reText a b c d) 31 sn') := seg2 (by kernel_rfl) (by kernel_rfl)
theorem seg_31 (sn : Sre.Seen) (a b c d : Nat) : ∃ sn', Reach 3 (mS (reText a b c d) 31 sn) (mS (reText a b c d) 30 sn') := seg2 (by kernel_rfl) (by kernel_rfl)
theorem seg_30 (sn : Sre.Seen) (a b c d : Nat) : ∃ sn', Reach 3 (mS (reText a b c d) 30 sn) (mS (reText a b c d) 29 sn') := seg2 (by kernel_rfl) (by kernel_rfl)
theorem seg_28 (sn : Sre.Seen) (a b c d : Nat) : ∃ sn', Reach 3 (mS (reText a b c d) 28 sn) (mS (reText a b c d) 27 sn') := seg2 (by kernel_rfl) (by kernel_rfl)
theorem seg_27 (sn : Sre.Seen) (a b c d : Nat) : ∃ sn', Reach 3 (mS (reText a b c d) 27 sn) (mS (reText a b c d) 26 sn') := seg2 (by kernel_rfl) (by kernel_rfl)
theorem seg_25 (sn : Sre.Seen) (a b c d : Nat) : ∃ sn', Reach 3 (mS (reText a b c d) 25 sn) (mS (reText a b c d) 24 sn') := seg2 (by kernel_rfl) (by kernel_rfl)
theorem seg_24 (sn : Sre.Seen) (a b c d : Nat) : ∃ sn', Reach 3 (mS (reText a b c d) 24 sn) (mS (reText a b c d) 23 sn') := seg2 (by kernel_rfl) (by kernel_rfl)
theorem seg_22 (sn : Sre.Seen) (a b c d : Nat) : ∃ sn', Reach 3 (mS (reText a b c d) 22 sn) (mS (reText a b c d) 21 sn') := seg2 (by kernel_rfl) (by kernel_rfl)
theorem seg_21 (sn : Sre.Seen) (a b c d : Nat) : ∃ sn', Reach 3 (mS (reText a b c d) 21 sn) (mS (reText a b c d) 20 sn') := seg2 (by kernel_rfl) (by kernel_rfl)
theorem seg_19 (sn : Sre.Seen) (a b c d : Nat) : ∃ sn', Reach 3 (mS (reText a b c d) 19 sn) (mS (reText a b c d) 18 sn') := seg2 (by kernel_rfl) (by kernel_rfl)
theorem seg_18 (sn : Sre.Seen) (a b c d : Nat) : ∃ sn', Reach 3 (mS (reText a b c d) 18 sn) (mS (reText a b c d) 17 sn') := seg2 (by kernel_rfl) (by kernel_rfl)
theorem seg_17 (sn : Sre.Seen) (a b c d : Nat) : ∃ sn', Reach 3 (mS (reText a b c d) 17 sn) (mS (reText a b c d) 16 sn') := seg2 (by kernel_rfl) (by kernel_rfl)
theorem seg_16 (sn : Sre.Seen) (a b c d : Nat) : ∃ sn', Reach 3 (mS (reText a b c d) 16 sn) (mS (reText a b c d) 15 sn') := seg2 (by kernel_rfl) (by kernel_rfl)
theorem seg_15 (sn : Sre.Seen) (a b c d : Nat) : ∃ sn', Reach 3 (mS (reText a b c d) 15 sn) (mS (reText a b c d) 14 sn') := seg2 (by kernel_rfl) (by kernel_rfl)
theorem seg_14 (sn : Sre.Seen) (a b c d : Nat) : ∃ sn', Reach 3 (mS (reText a b c d) 14 sn) (mS (reText a b c d) 13 sn') := seg2 (by kernel_rfl) (by kernel_rfl)
theorem seg_13 (sn : Sre.Seen) (a b c d : Nat) : ∃ sn', Reach 3 (mS (reText a b c d) 13 sn) (mS (reText a b c d) 12 sn') := seg2 (by kernel_rfl) (by kernel_rfl)
theorem seg_12 (sn : Sre.Seen) (a b c d : Nat) : ∃ sn', Reach 3 (mS (reText a b c d) 12 sn) (mS (reText a b c d) 11 sn') := seg2 (by kernel_rfl) (by kernel_rfl)
open Sre in
noncomputable def mX (T : Array Nat) (sn : Sre.Seen) : M :=
  { code := reCode, text := T, lim := 32, start := 0, pc := 27, pos := 18, handed := 11, marks := #[some 18, none], lastmark := 0,
    frames := [{ wait := .giveBack, pc := 5, pos := 11, outermost := true, count := 11, kept := { lastmark := -1, lastindex := -1, whole := false, marks := #[] } }], weight := 1, seen := sn }
open Sre in
noncomputable def mY (T : Array Nat) (sn : Sre.Seen) : M :=
  { code := reCode, text := T, lim := 32, start := 0, pc := 34, pos := 30, handed := 30, marks := #[some 18, none], lastmark := 0,
    frames := [{ wait := .giveBack, pc := 27, pos := 30, outermost := true, count := 12, kept := { lastmark := 0, lastindex := -1, whole := false, marks := #[] } },
      { wait := .giveBack, pc := 5, pos := 11, outermost := true, count := 11, kept := { lastmark := -1, lastindex := -1, whole := false, marks := #[] } }], weight := 2, seen := sn }
noncomputable def m11 (T : Array Nat) (pc pos : Nat) (sn : Sre.Seen) : Sre.M := { mS T 11 sn with pc, pos }
theorem lit11 (T : Array Nat) (pc pos : Nat) (e : ∀ sn, (m11 T pc pos sn).step = m11 T (pc + 2) (pos + 1) (sn.add 16)) (sn : Sre.Seen) : ∃ sn', Reach 1 (m11 T pc pos sn) (m11 T (pc + 2) (pos + 1) sn') := ⟨_, Reach.one rfl (e sn)⟩
theorem seg_11 (sn : Sre.Seen) (a b c d : Nat) : ∃ sn', Reach 8 (mS (reText a b c d) 11 sn) (mX (reText a b c d) sn') := by
  obtain ⟨s1, r1⟩ := lit11 (reText a b c d) 11 11 (fun _ => by kernel_rfl) sn
  obtain ⟨s2, r2⟩ := lit11 (reText a b c d) 13 12 (fun _ => by kernel_rfl) s1
  obtain ⟨s3, r3⟩ := lit11 (reText a b c d) 15 13 (fun _ => by kernel_rfl) s2
  obtain ⟨s4, r4⟩ := lit11 (reText a b c d) 17 14 (fun _ => by kernel_rfl) s3
  obtain ⟨s5, r5⟩ := lit11 (reText a b c d) 19 15 (fun _ => by kernel_rfl) s4
  obtain ⟨s6, r6⟩ := lit11 (reText a b c d) 21 16 (fun _ => by kernel_rfl) s5
  obtain ⟨s7, r7⟩ := lit11 (reText a b c d) 23 17 (fun _ => by kernel_rfl) s6
  have r8 : Reach 1 (m11 (reText a b c d) 25 18 s7) (mX (reText a b c d) (s7.add 17)) := Reach.one rfl (by kernel_rfl)
  exact ⟨_, ((((((r1.trans r2).trans r3).trans r4).trans r5).trans r6).trans r7).trans r8⟩
open Sre in
theorem seg_x (sn : Sre.Seen) (T : Array Nat) (h : ∀ q, 18 ≤ q → q < 18 + 12 → T.getD q 0 ≠ 41) (h1 : T.getD (18 + 12) 0 = 41) : Reach 1 (mX T sn) (mY T ((sn.add 24).add 20)) := by
  refine ⟨1, Nat.le_refl 1, ?_⟩
  show M.exec (mX T sn) = _
  rw [exec_rep (mX T sn) 12 ((sn.add 24).add 20) (by kernel_rfl) (show ¬ (((0 : Nat) : Int) > ((32 : Nat) : Int) - ((18 : Nat) : Int)) by decide) (run_not T _ 12 14 18 0 h h1 (by decide)) (show ¬ 12 < 0 by decide)]
  kernel_rfl
open Sre in
noncomputable def mZ (T : Array Nat) (pc pos handed : Nat) (sn : Sre.Seen) (fr : List Sre.Frame) (wt : Nat) (an : Option Bool) (oc : Option Sre.Outcome) : M :=
  { code := reCode, text := T, lim := 32, start := 0, pc, pos, handed, marks := #[some 18, some 30], lastmark := 1, lastindex := 1, frames := fr, weight := wt, answer := an, seen := sn, outcome := oc }
noncomputable def fr1 : Sre.Frame := { wait := .giveBack, pc := 27, pos := 30, outermost := true, count := 12, kept := { lastmark := 0, lastindex := -1, whole := false, marks := #[] } }
noncomputable def fr2 : Sre.Frame := { wait := .giveBack, pc := 5, pos := 11, outermost := true, count := 11, kept := { lastmark := -1, lastindex := -1, whole := false, marks := #[] } }
noncomputable def mR (T : Array Nat) (sn : Sre.Seen) : Sre.M := mZ T 5 11 31 sn [] 0 (some true) (some .matched)
theorem seg_y (sn : Sre.Seen) (a b c d : Nat) : Reach 6 (mY (reText a b c d) sn) (mR (reText a b c d) (((sn.add 17).add 16).add 1)) :=
  (((((Reach.one rfl (by kernel_rfl : (mY (reText a b c d) sn).step = mZ (reText a b c d) 36 30 30 (sn.add 17) [fr1, fr2] 2 none none)).trans
    (Reach.one rfl (by kernel_rfl : (mZ (reText a b c d) 36 30 30 (sn.add 17) [fr1, fr2] 2 none none).step = mZ (reText a b c d) 38 31 30 ((sn.add 17).add 16) [fr1, fr2] 2 none none))).trans
    (Reach.one rfl (by kernel_rfl : (mZ (reText a b c d) 38 31 30 ((sn.add 17).add 16) [fr1, fr2] 2 none none).step = mZ (reText a b c d) 38 31 31 (((sn.add 17).add 16).add 1) [fr1, fr2] 2 (some true) none))).trans
    (Reach.one rfl (by kernel_rfl : (mZ (reText a b c d) 38 31 31 (((sn.add 17).add 16).add 1) [fr1, fr2] 2 (some true) none).step = mZ (reText a b c d) 27 30 31 (((sn.add 17).add 16).add 1) [fr2] 1 (some true) none))).trans
    (Reach.one rfl (by kernel_rfl : (mZ (reText a b c d) 27 30 31 (((sn.add 17).add 16).add 1) [fr2] 1 (some true) none).step = mZ (reText a b c d) 5 11 31 (((sn.add 17).add 16).add 1) [] 0 (some true) none))).trans
    (Reach.one rfl (by kernel_rfl : (mZ (reText a b c d) 5 11 31 (((sn.add 17).add 16).add 1) [] 0 (some true) none).step = mR (reText a b c d) (((sn.add 17).add 16).add 1)))
theorem text_ne (a b c d : Nat) (ha : okL a) (hb : okL b) (hc : okL c) (hd : okL d) (x : Nat) (hx : x = 10 ∨ x = 41) : ∀ q, (x = 10 ∨ 18 ≤ q) → q < 30 → (reText a b c d).getD q 0 ≠ x := by
  unfold okL at ha hb hc hd
  have key : ∀ q : Fin 30, (x = 10 ∨ 18 ≤ q.val) → (reText a b c d).getD q.val 0 ≠ x := by
    intro q
    match q with
    | ⟨0, _⟩ | ⟨1, _⟩ | ⟨2, _⟩ | ⟨3, _⟩ | ⟨4, _⟩ | ⟨5, _⟩ | ⟨6, _⟩ | ⟨7, _⟩ | ⟨8, _⟩ | ⟨9, _⟩ | ⟨10, _⟩ | ⟨11, _⟩ | ⟨12, _⟩ | ⟨13, _⟩ | ⟨14, _⟩ | ⟨15, _⟩ | ⟨16, _⟩ | ⟨17, _⟩ | ⟨18, _⟩ | ⟨19, _⟩ | ⟨20, _⟩ | ⟨21, _⟩ | ⟨22, _⟩ | ⟨23, _⟩ | ⟨24, _⟩ | ⟨25, _⟩ | ⟨26, _⟩ | ⟨27, _⟩ | ⟨28, _⟩ | ⟨29, _⟩ => simp [reText]; omega
    | ⟨n + 30, h⟩ => exact absurd h (by omega)
  exact fun q h1 h2 => key ⟨q, h2⟩ h1
theorem re_runs (a b c d : Nat) (ha : okL a) (hb : okL b) (hc : okL c) (hd : okL d) : ∃ sn, ∀ n, 100 ≤ n → Sre.M.runFor n (Sre.forMatch reCode (reText a b c d) 1 0 32 false false) = mR (reText a b c d) sn := by
  have t10 : ∀ q, 0 ≤ q → q < 0 + 32 → (reText a b c d).getD q 0 ≠ 10 := fun q _ h => by
    by_cases h30 : q < 30
    · exact text_ne a b c d ha hb hc hd 10 (.inl rfl) q (.inl rfl) h30
    · have : q = 30 ∨ q = 31 := by omega
      rcases this with rfl | rfl <;> (intro e; exact absurd (show (41 : Nat) = 10 from e) (by decide))
  have t41 : ∀ q, 18 ≤ q → q < 18 + 12 → (reText a b c d).getD q 0 ≠ 41 := fun q h1 h => text_ne a b c d ha hb hc hd 41 (.inr rfl) q (.inr h1) h
  have r := seg_start _ t10
  obtain ⟨s32, r32⟩ := seg_32 ((Sre.Seen.add (Sre.Seen.add {} 14) 24).add 2) a b c d
  replace r := r.trans r32
  obtain ⟨s31, r31⟩ := seg_31 s32 a b c d
  replace r := r.trans r31
  obtain ⟨s30, r30⟩ := seg_30 s31 a b c d
  replace r := r.trans r30
  obtain ⟨s29, r29⟩ := seg_d s30 a b c hd
  replace r := r.trans r29
  obtain ⟨s28, r28⟩ := seg_28 s29 a b c d
  replace r := r.trans r28
  obtain ⟨s27, r27⟩ := seg_27 s28 a b c d
  replace r := r.trans r27
  obtain ⟨s26, r26⟩ := seg_c s27 a b d hc
  replace r := r.trans r26
  obtain ⟨s25, r25⟩ := seg_25 s26 a b c d
  replace r := r.trans r25
  obtain ⟨s24, r24⟩ := seg_24 s25 a b c d
  replace r := r.trans r24
  obtain ⟨s23, r23⟩ := seg_b s24 a c d hb
  replace r := r.trans r23
  obtain ⟨s22, r22⟩ := seg_22 s23 a b c d
  replace r := r.trans r22
  obtain ⟨s21, r21⟩ := seg_21 s22 a b c d
  replace r := r.trans r21
  obtain ⟨s20, r20⟩ := seg_a s21 b c d ha
  replace r := r.trans r20
  obtain ⟨s19, r19⟩ := seg_19 s20 a b c d
  replace r := r.trans r19
  obtain ⟨s18, r18⟩ := seg_18 s19 a b c d
  replace r := r.trans r18
  obtain ⟨s17, r17⟩ := seg_17 s18 a b c d
  replace r := r.trans r17
  obtain ⟨s16, r16⟩ := seg_16 s17 a b c d
  replace r := r.trans r16
  obtain ⟨s15, r15⟩ := seg_15 s16 a b c d
  replace r := r.trans r15
  obtain ⟨s14, r14⟩ := seg_14 s15 a b c d
  replace r := r.trans r14
  obtain ⟨s13, r13⟩ := seg_13 s14 a b c d
  replace r := r.trans r13
  obtain ⟨s12, r12⟩ := seg_12 s13 a b c d
  replace r := r.trans r12
  obtain ⟨s11, r11⟩ := seg_11 s12 a b c d
  replace r := ((r.trans r11).trans (seg_x s11 _ t41 rfl)).trans (seg_y _ a b c d)
  exact ⟨_, fun n hn => r.full (by omega) rfl⟩
end Mine
namespace Mine
open PySem.Builtin PySem.Builtin.Re
theorem plainAttrs_pat : PlainAttrs "re.Pattern" :=
  ⟨⟨"object.__getattribute__", by rw [typeLookup_type, builtinLookup_eq_fast]; kernel_rfl, by decide +kernel⟩, by rw [typeLookup_type, builtinLookup_eq_fast]; kernel_rfl⟩
theorem plainAttrs_mat : PlainAttrs "re.Match" :=
  ⟨⟨"object.__getattribute__", by rw [typeLookup_type, builtinLookup_eq_fast]; kernel_rfl, by decide +kernel⟩, by rw [typeLookup_type, builtinLookup_eq_fast]; kernel_rfl⟩
theorem slot_pat_match : Slot "re.Pattern" "match" "re.Pattern.match" :=
  .of (owner := "re.Pattern") (n := "match") (by rw [typeLookup_type, builtinLookup_eq_fast]; kernel_rfl) (by decide +kernel) (by decide +kernel) (by decide +kernel)
    (by first | exact .inl (by decide +kernel) | exact .inr (by decide +kernel)) (by rw [isSubtype_type]; kernel_rfl)
theorem slot_mat_group : Slot "re.Match" "group" "re.Match.group" :=
  .of (owner := "re.Match") (n := "group") (by rw [typeLookup_type, builtinLookup_eq_fast]; kernel_rfl) (by decide +kernel) (by decide +kernel) (by decide +kernel)
    (by first | exact .inl (by decide +kernel) | exact .inr (by decide +kernel)) (by rw [isSubtype_type]; kernel_rfl)
theorem slot_bytes_split : Slot "bytes" "split" "bytes.split" :=
  .of (owner := "bytes") (n := "split") (by rw [typeLookup_type, builtinLookup_eq_fast]; kernel_rfl) (by decide +kernel) (by decide +kernel) (by decide +kernel)
    (by first | exact .inl (by decide +kernel) | exact .inr (by decide +kernel)) (by rw [isSubtype_type]; kernel_rfl)
theorem type_pat_match : typeOf (.builtin "re.Pattern.match") = pure (.type "method_descriptor") := by show builtinType _ = _; rw [builtinType_eq_fast]; kernel_rfl
theorem type_mat_group : typeOf (.builtin "re.Match.group") = pure (.type "method_descriptor") := by show builtinType _ = _; rw [builtinType_eq_fast]; kernel_rfl
theorem type_bytes_split : typeOf (.builtin "bytes.split") = pure (.type "method_descriptor") := by show builtinType _ = _; rw [builtinType_eq_fast]; kernel_rfl
theorem entry_pat_match : entryFor table "re.Pattern.match" = some Builtin.«re.Pattern.match» := entryFor_of_tree (by kernel_rfl)
theorem entry_mat_group : entryFor table "re.Match.group" = some Builtin.«re.Match.group» := entryFor_of_tree (by kernel_rfl)
theorem entry_bytes_split : entryFor table "bytes.split" = some Builtin.«bytes.split» := entryFor_of_tree (by kernel_rfl)
theorem args_pat_match (a b : Value) : argsOk "re.Pattern.match" ⟨[a, b], []⟩ := by unfold argsOk; kernel_rfl
theorem args_mat_group (a b : Value) : argsOk "re.Match.group" ⟨[a, b], []⟩ := by unfold argsOk; kernel_rfl
theorem args_bytes_split (a : Value) : argsOk "bytes.split" ⟨[a], []⟩ := by unfold argsOk; kernel_rfl
theorem sub_bytes : isSubtype (.type "bytes") (.type "bytes") = pure true := by rw [isSubtype_type]; kernel_rfl
end Mine
namespace Mine
open PySem.Builtin PySem.Builtin.Re
noncomputable def lineB (a b c d : UInt8) : Array UInt8 := #[42, 32, 49, 32, 70, 69, 84, 67, 72, 32, 40, 70, 76, 65, 71, 83, 32, 40, 32, 66, a, 32, 66, b, 32, 66, c, 32, 66, d, 41, 41]
noncomputable def codeVals : Array Value := #[.int 14 0, .int 4 0, .int 0 0, .int 8 0, .int 4294967295 0, .int 24 0, .int 5 0, .int 0 0, .int 4294967295 0, .int 2 0, .int 1 0, .int 16 0, .int 70 0, .int 16 0, .int 76 0, .int 16 0, .int 65 0, .int 16 0, .int 71 0, .int 16 0, .int 83 0, .int 16 0, .int 32 0, .int 16 0, .int 40 0, .int 17 0, .int 0 0, .int 24 0, .int 6 0, .int 0 0, .int 4294967295 0, .int 20 0, .int 41 0, .int 1 0, .int 17 0, .int 1 0, .int 16 0, .int 41 0, .int 1 0]
theorem line_text (a b c d : UInt8) : (lineB a b c d).map (·.toNat) = reText a.toNat b.toNat c.toNat d.toNat := by
  simp [lineB, reText]
theorem code_text : (codeVals.map reRawOf).map (·.toNat) = reCode := by decide +kernel
theorem named_match (id : String) (v : Value) : reNamed id "match" ["string", "pos", "endpos"] 1 [v] [] = pure [some v, none, none] := by kernel_rfl
theorem textOf_bytes (b : Array UInt8) (t : Tok) : reTextOf (.bytes b t) = pure (b.map (·.toNat), 1) := by
  unfold reTextOf
  rw [KBy.quiet_eq]
  rfl
theorem noColl_bytes (b : Array UInt8) (t : Tok) : reNoCollectionInside (.bytes b t) 1 = pure () := by
  unfold reNoCollectionInside
  have e : isInstance (.bytes b t) (.type "bytes") = pure true := by
    unfold isInstance
    have : typeOf (.bytes b t) = pure (.type "bytes") := rfl
    rw [this]
    show isSubtype (.type "bytes") (.type "bytes") = _
    exact sub_bytes
  rw [e]
  rfl
theorem drive_wp {M : Model} {A : Around} {E : Value → Shared → Prop} {s : Shared} {Q : Sre.M → Shared → Prop} : ∀ (k turns : Nat) (m : Sre.M), k < turns → (Sre.M.runFor (4 * k) m).outcome.isSome = true → Q (Sre.M.runFor (4 * k) m) s → wpAny M A (reDrive turns m) Q E s
  | 0, turns, m, ht, hs, h => by
    obtain ⟨n, rfl⟩ : ∃ n, turns = n + 1 := ⟨turns - 1, by omega⟩
    have hm : m.outcome.isSome = true := hs
    unfold reDrive
    simp only [runFor_done m hm, hm, if_true]
    exact wpAny_pure h
  | k + 1, turns, m, ht, hs, h => by
    obtain ⟨n, rfl⟩ : ∃ n, turns = n + 1 := ⟨turns - 1, by omega⟩
    have e : 4 * (k + 1) = 4 + 4 * k := by omega
    rw [e, runFor_add] at hs h
    unfold reDrive
    simp only [show reTurnSteps = 4 from rfl]
    by_cases hm : (Sre.M.runFor 4 m).outcome.isSome = true
    · rw [runFor_done _ hm] at h
      rw [if_pos hm]
      exact wpAny_pure h
    · rw [if_neg hm]
      exact wpAny_bind (wpAny_rule (drive_wp k n _ (by omega) hs h))
theorem forIn_units {M : Model} {A : Around} {E : Value → Shared → Prop} {s : Shared} {f : Nat → PUnit → Sem (ForInStep PUnit)} (hf : ∀ i (Q : ForInStep PUnit → Shared → Prop) s, Q (.yield ⟨⟩) s → wpAny M A (f i ⟨⟩) Q E s) {Q : PUnit → Shared → Prop} (h : Q ⟨⟩ s) : ∀ l : List Nat, wpAny M A (forIn l PUnit.unit f) Q E s
  | [] => by
    rw [List.forIn_nil]
    exact wpAny_pure h
  | i :: l => by
    rw [List.forIn_cons]
    exact wpAny_bind (hf i _ _ (forIn_units hf h l))
theorem runToEnd_wp {M : Model} {A : Around} {E : Value → Shared → Prop} {s : Shared} {Q : Option Sre.M → Shared → Prop} {m r : Sre.M} {k : Nat} (hk : k < 2 ^ 64) (hr : Sre.M.runFor (4 * k) m = r) (ho : r.outcome = some .matched) (h : Q (some r) s) : wpAny M A (reRunToEnd m) Q E s := by
  unfold reRunToEnd
  refine wpAny_bind (drive_wp k (2 ^ 64) m hk (by rw [hr, ho]; rfl) ?_)
  rw [hr]
  refine wpAny_bind (forIn_units (fun i Q s hq => ?_) ?_ _)
  · split
    · exact wpAny_bind (wpAny_rule (wpAny_pure hq))
    · exact wpAny_pure hq
  · rw [ho]
    exact wpAny_pure h
theorem meets_match (a b c d : UInt8) (ha : okL a.toNat) (hb : okL b.toNat) (hc : okL c.toNat) (hd : okL d.toNat) (p q : Addr) (t : Tok) (v0 v1 v3 v4 : Value) :
    Meets («re.Pattern.match» ⟨[.ref p, .bytes (lineB a b c d) t], []⟩) (fun _ R s => (∃ po, s.heap.get? p = some po ∧ po.data = .fields #[v0, v1, .int 1 0, v3, v4, .ref q, .int 1 0]) ∧ (∃ qo n, s.heap.get? q = some qo ∧ qo.data = .seq codeVals n) ∧
      ∀ k, R (.ok (.ret (.ref (s.heap.objs.size + 1)))) { s with heap := (s.heap.push { cls := .type "tuple", data := .seq #[.int 0 0, .int 31 0, .int 18 0, .int 30 0] }).push { cls := .type "re.Match", data := .fields #[.bytes (lineB a b c d) t, .ref p, .int 0 0, .int 32 0, .int 1 0, .ref s.heap.objs.size] }, toks := k }) := by
  refine .of_wp fun prog w A R s hS => ?_
  obtain ⟨⟨po, hp, hpd⟩, ⟨qo, n, hq, hqd⟩, h⟩ := hS
  unfold Builtin.«re.Pattern.match» reTarget
  refine wpAny_bind ?_
  dsimp only
  rw [named_match]
  refine wpAny_bind (wpAny_pure ?_)
  dsimp only
  refine wpAny_bind (wpAny_pure ?_)
  refine wpAny_bind (wpAny_pure ?_)
  refine wpAny_bind (wpAny_fieldsOf hp hpd ?_)
  rw [textOf_bytes]
  refine wpAny_bind (wpAny_pure ?_)
  dsimp only
  refine wpAny_ite (KBy.ite_no (fun h => Bool.false_ne_true h) ?_)
  refine wpAny_ite (KBy.ite_no (fun h => Bool.false_ne_true h) ?_)
  rw [noColl_bytes]
  refine wpAny_bind (wpAny_pure ?_)
  unfold reRawItems
  refine wpAny_bind (wpAny_bind (wpAny_seqItems hq hqd (wpAny_pure ?_)))
  refine wpAny_pure ?_
  dsimp only [Option.getD_some]
  rw [code_text, line_text]
  have e1 : Min.min (Int.toNat 0) (reText a.toNat b.toNat c.toNat d.toNat).size = 0 := rfl
  have e2 : Min.min ((2 : Int) ^ 63 - 1).toNat (reText a.toNat b.toNat c.toNat d.toNat).size = 32 := by
    rw [show (reText a.toNat b.toNat c.toNat d.toNat).size = 32 from rfl]
    decide
  have e3 : reRawNat (#[v0, v1, Value.int 1 0, v3, v4, Value.ref q, Value.int 1 0].getD 2 Value.none) = 1 := rfl
  rw [e1, e2, e3]
  obtain ⟨sn, hr⟩ := re_runs a.toNat b.toNat c.toNat d.toNat ha hb hc hd
  unfold reAnswer
  refine wpAny_bind (runToEnd_wp (k := 25) (by decide) (hr (4 * 25) (by decide)) rfl ?_)
  dsimp only
  refine wpAny_bind ?_
  unfold reNewMatch
  dsimp only
  refine wpAny_ite (KBy.ite_no (fun h => Bool.false_ne_true h) ?_)
  show wpAny _ _ (newTuple [.int 0 0, .int 31 0, .int 18 0, .int 30 0] >>= fun x => newFields "re.Match" [.bytes (lineB a b c d) t, .ref p, .int 0 0, .int 32 0, .int 1 0, x]) _ _ _
  refine wpAny_bind (wpAny_newObj_type ?_)
  refine wpAny_newObj_type (wpAny_pure ⟨_, rfl, ?_⟩)
  have e5 : (s.heap.push { cls := .type "tuple", data := .seq [Value.int 0 0, .int 31 0, .int 18 0, .int 30 0].toArray }).objs.size = s.heap.objs.size + 1 := Heap.size_push ..
  show R (.ok (.ret (.ref (s.heap.push { cls := .type "tuple", data := .seq [Value.int 0 0, .int 31 0, .int 18 0, .int 30 0].toArray }).objs.size))) _
  rw [e5]
  exact h s.toks
noncomputable def flagsB (a b c d : UInt8) : Array UInt8 := #[32, 66, a, 32, 66, b, 32, 66, c, 32, 66, d]
theorem slice_flags (a b c d : UInt8) : ((reText a.toNat b.toNat c.toNat d.toNat).extract 18 30).map (·.toUInt8) = flagsB a b c d := by
  simp [reText, flagsB]
theorem space_ok {x : UInt8} (h : okL x.toNat) : Bytes.isSpace x = false := by
  obtain ⟨h1, h2⟩ := h
  have e1 : (x == 32) = false := by
    simp only [beq_eq_false_iff_ne, ne_eq]
    intro e
    rw [e] at h1
    exact absurd h1 (by decide)
  have e2 : ¬ x ≤ 13 := by
    intro e
    have : x.toNat ≤ 13 := e
    omega
  unfold Bytes.isSpace
  simp [e1, e2]
theorem words_flags (a b c d : UInt8) (ha : okL a.toNat) (hb : okL b.toNat) (hc : okL c.toNat) (hd : okL d.toNat) : Bytes.words (12 + 1) 13 (flagsB a b c d).toList = [[66, a], [66, b], [66, c], [66, d]] := by
  have s32 : Bytes.isSpace 32 = true := by decide
  have s66 : Bytes.isSpace 66 = false := by decide
  simp [flagsB, Bytes.words, s32, s66, space_ok ha, space_ok hb, space_ok hc, space_ok hd, List.dropWhile, List.takeWhile]
end Mine
namespace Mine
open PySem.Builtin PySem.Builtin.Re
theorem opt_split : Bytes.bindOptional "bytes.split" "split" ["sep", "maxsplit"] [] [] = pure [none, none] := by kernel_rfl
theorem any_flags (a b c d : UInt8) : (flagsB a b c d).any Bytes.isSpace = true := by
  have s32 : Bytes.isSpace 32 = true := by decide
  simp [flagsB, s32]
theorem two_ok (x y : UInt8) : [x, y].toArray.size ≤ sizeLine := by
  show 2 ≤ sizeLine
  decide
theorem meets_split (a b c d : UInt8) (ha : okL a.toNat) (hb : okL b.toNat) (hc : okL c.toNat) (hd : okL d.toNat) (t : Tok) :
    Meets («bytes.split» ⟨[.bytes (flagsB a b c d) t], []⟩) (fun _ R s => ∀ t1 t2 t3 t4 k, R (.ok (.ret (.ref s.heap.objs.size))) { s with heap := s.heap.push (lstOf [.bytes #[66, a] t1, .bytes #[66, b] t2, .bytes #[66, c] t3, .bytes #[66, d] t4]), toks := k }) := by
  refine .of_wp fun prog w A R s h => ?_
  unfold Builtin.«bytes.split» Bytes.splitM
  dsimp only
  show wpAny _ _ (Bytes.bindOptional "bytes.split" "split" ["sep", "maxsplit"] [] [] >>= _) _ _ _
  rw [opt_split]
  refine wpAny_bind (wpAny_pure ?_)
  dsimp only
  refine wpAny_bind (wpAny_pure ?_)
  refine wpAny_bind (wpAny_of_eq (show Bytes.payload (.bytes (flagsB a b c d) t) = pure (flagsB a b c d) from rfl) ?_)
  refine wpAny_bind (wpAny_rule ?_)
  rw [any_flags]
  have e0 : (decide ((if (-1 : Int) < 0 then (flagsB a b c d).size + 1 else (-1 : Int).toNat) > 0) && !(flagsB a b c d).isEmpty && !true) = false := Bool.and_false _
  rw [e0]
  refine wpAny_ite (KBy.ite_no Bool.false_ne_true ?_)
  have e1 : (if false = true then (List.map (fun x => x.reverse) (Bytes.words ((flagsB a b c d).size + 1) (if (-1 : Int) < 0 then (flagsB a b c d).size + 1 else (-1 : Int).toNat) (flagsB a b c d).toList.reverse)).reverse
      else Bytes.words ((flagsB a b c d).size + 1) (if (-1 : Int) < 0 then (flagsB a b c d).size + 1 else (-1 : Int).toNat) (flagsB a b c d).toList) = [[66, a], [66, b], [66, c], [66, d]] := words_flags a b c d ha hb hc hd
  rw [e1]
  simp only [List.mapM_cons, List.mapM_nil]
  refine wpAny_bind ?_
  refine wpAny_bind (wpAny_mkBytes ?_ (two_ok _ _))
  refine wpAny_bind (wpAny_bind (wpAny_mkBytes ?_ (two_ok _ _)))
  refine wpAny_bind (wpAny_bind (wpAny_mkBytes ?_ (two_ok _ _)))
  refine wpAny_bind (wpAny_bind (wpAny_mkBytes ?_ (two_ok _ _)))
  refine wpAny_bind (wpAny_pure ?_)
  repeat' (refine wpAny_pure ?_)
  refine wpAny_bind (wpAny_newObj_type ?_ (by show 4 ≤ sizeLine; decide))
  exact wpAny_pure ⟨_, rfl, h _ _ _ _ _⟩
theorem str_no_index : typeLookup (.type "str") "__index__" = pure none := by rw [typeLookup_type, builtinLookup_eq_fast]; kernel_rfl
theorem grp_int (x : Str) (t : Tok) : asInt? (.str x t) = pure none := rfl
theorem call_group {prog : Program} {w : World} {A : Around} {E : Value → Shared → Prop} {s : Shared} {mo p dd T : Addr} {oMo oP oT : Obj} {nT : Nat} {b : Array UInt8} {tb u tn : Tok} {x2 x3 x4 v0 v1 v2 v4 v5 v6 : Value} {x : Str} {f : Str → Option Value} {Q : Value → Shared → Prop}
    (h1 : s.heap.get? mo = some oMo) (c1 : oMo.cls = .type "re.Match") (d1 : oMo.data = .fields #[.bytes b tb, .ref p, x2, x3, x4, .ref T]) (h2 : s.heap.get? T = some oT) (d2 : oT.data = .seq #[.int 0 0, .int 31 0, .int 18 0, .int 30 0] nT)
    (h3 : s.heap.get? p = some oP) (d3 : oP.data = .fields #[v0, v1, v2, .ref dd, v4, v5, v6]) (hm : s.heap.MapOf (strKind prog w) dd f) (hf : f x = some (.int 1 tn)) (hsz : ((b.map (·.toNat)).extract 18 30).size ≤ sizeLine)
    (h : ∀ k t', Q (.bytes (((b.map (·.toNat)).extract 18 30).map (·.toUInt8)) t') { s with toks := k }) :
    wpAny (model prog w) A (call (.builtin "re.Match.group") [.ref mo, .str x u]) Q E s := by
  have hT : s.TypeIs (.ref mo) "re.Match" := ⟨oMo, h1, c1⟩
  refine wpAny_call (codeAny_call_builtin slot_mat_group.plain entry_mat_group (slot_mat_group.check _ _ _ _ _ _ _ _ hT (args_mat_group _ _) ?_))
  unfold Builtin.«re.Match.group»
  refine wpAny_bind (wpAny_of_eq (a := ()) rfl ?_)
  dsimp only
  unfold reFound reRawItems
  refine wpAny_bind (wpAny_bind (wpAny_fieldsOf h1 d1 ?_))
  refine wpAny_bind (wpAny_bind (wpAny_seqItems h2 d2 (wpAny_pure ?_)))
  refine wpAny_pure ?_
  have esp : Array.map reRawOf ((some #[Value.int 0 0, Value.int 31 0, Value.int 18 0, Value.int 30 0]).getD #[]) = #[0, 31, 18, 30] := by simp [reRawOf]
  rw [esp]
  refine wpAny_bind ?_
  unfold reGroupNumber
  rw [grp_int]
  refine wpAny_bind (wpAny_pure ?_)
  refine wpAny_ite (KBy.ite_no Bool.false_ne_true ?_)
  refine wpAny_bind (wpAny_specialOf (typeIs_str _ _ _) str_no_index ?_)
  refine wpAny_ite (KBy.ite_no Bool.false_ne_true ?_)
  show wpAny _ _ (fieldsOf (.ref p) >>= _) _ _ _
  refine wpAny_bind (wpAny_fieldsOf h3 d3 ?_)
  show wpAny _ _ (dictGet dd (.str x u) >>= _) _ _ _
  refine wpAny_bind (wpAny_dictGet_of (strKind_is prog w x u) hm ?_)
  rw [hf]
  refine wpAny_bind (wpAny_of_eq (show asInt? (.int 1 tn) = pure (some 1) from rfl) ?_)
  refine wpAny_bind (wpAny_pure ?_)
  refine wpAny_ite (KBy.ite_no (fun h => Bool.false_ne_true h) ?_)
  refine wpAny_pure ?_
  refine wpAny_bind ?_
  show wpAny _ _ (if (decide ((18 : Int) < 0) || decide ((30 : Int) < 0)) = true then pure Value.none else (reTextOf (.bytes b tb) >>= fun r => reSlice r.1 r.2 18 30)) _ _ _
  refine wpAny_ite (KBy.ite_no (by decide) ?_)
  rw [textOf_bytes]
  refine wpAny_bind (wpAny_pure ?_)
  show wpAny _ _ (if (1 == 0) = true then _ else mkBytes (((b.map (·.toNat)).extract 18 30).map (·.toUInt8))) _ _ _
  refine wpAny_ite (KBy.ite_no (by decide) ?_)
  refine wpAny_mkBytes ?_ (by rw [Array.size_map]; exact hsz)
  exact wpAny_pure (h _ _)
end Mine
namespace Mine
theorem mat_noBool : typeLookup (.type "re.Match") "__bool__" = pure none := by rw [typeLookup_type, builtinLookup_eq_fast]; kernel_rfl
theorem mat_noLen : typeLookup (.type "re.Match") "__len__" = pure none := by rw [typeLookup_type, builtinLookup_eq_fast]; kernel_rfl
section
variable {prog : Program} {w : World} {A : Around} {E : Value → Shared → Prop} {s : Shared} {h₀ : Heap} {L : Addr} {m : Str → Option Value} {news : List (Addr × Obj)}
theorem truthy_mat {a : Addr} {o : Obj} {Q : Bool → Shared → Prop} (N : News h₀ L s.heap news) (hm : (a, o) ∈ news) (hc : o.cls = .type "re.Match") (h : Q true s) : wpAny (model prog w) A (truthy (.ref a)) Q E s := by
  have hT : s.TypeIs (.ref a) "re.Match" := ⟨o, (N _ hm).1, hc⟩
  unfold truthy
  refine wpAny_bind (wpAny_callSpecial?_none (name := Str.ofString "__bool__") hT mat_noBool ?_)
  exact wpAny_bind (wpAny_specialOf (name := Str.ofString "__len__") hT mat_noLen (wpAny_pure h))
theorem gm_group {a : Addr} {o : Obj} {pl : Sem Bool} {Q : Value × List Value → Shared → Prop} (N : News h₀ L s.heap news) (hm : (a, o) ∈ news) (hc : o.cls = .type "re.Match") (hd : o.dict = none) (h : Q (.builtin "re.Match.group", [.ref a]) s) :
    wpAny (model prog w) A (getMethod (.ref a) "group" pl) Q E s :=
  getMethod_builtin ⟨o, (N _ hm).1, hc⟩ plainAttrs_mat slot_mat_group type_mat_group (fun b e => by cases e; exact ⟨o, (N _ hm).1, hd⟩) h
theorem gm_match {K : Frag} {a : Addr} {o : Obj} {pl : Sem Bool} {Q : Value × List Value → Shared → Prop} (F : Fr h₀ L s.heap m) (X : K.In h₀) (hl : K.lookup a = some o) (hc : o.cls = .type "re.Pattern") (hd : o.dict = none) (h : Q (.builtin "re.Pattern.match", [.ref a]) s) :
    wpAny (model prog w) A (getMethod (.ref a) "match" pl) Q E s :=
  getMethod_builtin ⟨o, F.keep _ _ (X _ _ hl), hc⟩ plainAttrs_pat slot_pat_match type_pat_match (fun b e => by cases e; exact ⟨o, F.keep _ _ (X _ _ hl), hd⟩) h
theorem gm_split {b : Array UInt8} {t : Tok} {pl : Sem Bool} {Q : Value × List Value → Shared → Prop} (h : Q (.builtin "bytes.split", [.bytes b t]) s) :
    wpAny (model prog w) A (getMethod (.bytes b t) "split" pl) Q E s :=
  getMethod_builtin (typeIs_bytes _ _ _) FB.plainAttrs_bytes slot_bytes_split type_bytes_split (fun _ e => nomatch e) h
theorem k_match {K : Frag} {a b c d : UInt8} (ha : okL a.toNat) (hb : okL b.toNat) (hc : okL c.toNat) (hd : okL d.toNat) {p q : Addr} {t : Tok} {v0 v1 v3 v4 : Value} {po qo : Obj} {n : Nat} {Q : Value → Shared → Prop}
    (F : Fr h₀ L s.heap m) (X : K.In h₀) (N : News h₀ L s.heap news) (hp : K.lookup p = some po) (cp : po.cls = .type "re.Pattern") (dp : po.data = .fields #[v0, v1, .int 1 0, v3, v4, .ref q, .int 1 0]) (hq : K.lookup q = some qo) (dq : qo.data = .seq codeVals n)
    (h : ∀ T Mo h' k, Fr h₀ L h' m → News h₀ L h' ((Mo, { cls := .type "re.Match", data := .fields #[.bytes (lineB a b c d) t, .ref p, .int 0 0, .int 32 0, .int 1 0, .ref T] }) :: (T, tupOf [.int 0 0, .int 31 0, .int 18 0, .int 30 0]) :: news) → (∀ x ∈ news, x.1 < T) → T < Mo → Q (.ref Mo) { s with heap := h', toks := k }) :
    wpAny (model prog w) A (call (.builtin "re.Pattern.match") [.ref p, .bytes (lineB a b c d) t]) Q E s := by
  have Xk := X.keeps F.keep
  refine call_meets slot_pat_match ⟨po, Xk _ _ hp, cp⟩ entry_pat_match (args_pat_match _ _) (meets_match a b c d ha hb hc hd p q t v0 v1 v3 v4) ⟨⟨po, Xk _ _ hp, dp⟩, ⟨qo, n, Xk _ _ hq, dq⟩, fun k => ?_⟩
  have e5 : (s.heap.push { cls := .type "tuple", data := .seq [Value.int 0 0, .int 31 0, .int 18 0, .int 30 0].toArray }).objs.size = s.heap.objs.size + 1 := Heap.size_push ..
  have F1 := F.push (tupOf [.int 0 0, .int 31 0, .int 18 0, .int 30 0])
  have N1 := N.push F (tupOf [.int 0 0, .int 31 0, .int 18 0, .int 30 0])
  have F2 := F1.push { cls := .type "re.Match", data := .fields #[.bytes (lineB a b c d) t, .ref p, .int 0 0, .int 32 0, .int 1 0, .ref s.heap.objs.size] }
  have N2 := N1.push F1 { cls := .type "re.Match", data := .fields #[.bytes (lineB a b c d) t, .ref p, .int 0 0, .int 32 0, .int 1 0, .ref s.heap.objs.size] }
  rw [e5] at N2
  exact h s.heap.objs.size (s.heap.objs.size + 1) _ k F2 N2 (fun x hx => Heap.lt_size (N x hx).1) (Nat.lt_succ_self _)
theorem k_group {K : Frag} {a b c d : UInt8} {mo p dd T : Addr} {oMo oT oP : Obj} {nT : Nat} {tb u tn : Tok} {x2 x3 x4 v0 v1 v2 v4 v5 v6 : Value} {es : Array DictEntry} {n : Nat} {x : Str} {Q : Value → Shared → Prop}
    (F : Fr h₀ L s.heap m) (X : K.In h₀) (N : News h₀ L s.heap news) (hMo : (mo, oMo) ∈ news) (c1 : oMo.cls = .type "re.Match") (d1 : oMo.data = .fields #[.bytes (lineB a b c d) tb, .ref p, x2, x3, x4, .ref T]) (hT : (T, oT) ∈ news) (d2 : oT.data = .seq #[.int 0 0, .int 31 0, .int 18 0, .int 30 0] nT)
    (hp : K.lookup p = some oP) (d3 : oP.data = .fields #[v0, v1, v2, .ref dd, v4, v5, v6]) (hl : K.lookup dd = some ⟨.type "dict", none, .dict es n, #[]⟩) (hk : KeysLit w.params es.toList) (e : nsIn K dd x = some (some (.int 1 tn)))
    (h : ∀ k t', Q (.bytes (flagsB a b c d) t') { s with toks := k }) :
    wpAny (model prog w) A (call (.builtin "re.Match.group") [.ref mo, .str x u]) Q E s := by
  have Xk := X.keeps F.keep
  have hs : ((lineB a b c d).map (·.toNat)).extract 18 30 = (reText a.toNat b.toNat c.toNat d.toNat).extract 18 30 := by rw [line_text]
  have hm := mapOf_K (prog := prog) Xk hl hk
  refine call_group (N _ hMo).1 c1 d1 (N _ hT).1 d2 (Xk _ _ hp) d3 hm (find_K hl e) ?_ (fun k t' => ?_)
  · rw [hs]
    show 12 ≤ sizeLine
    decide
  · rw [hs, slice_flags]
    exact h k t'
theorem k_split {a b c d : UInt8} (ha : okL a.toNat) (hb : okL b.toNat) (hc : okL c.toNat) (hd : okL d.toNat) {t : Tok} {Q : Value → Shared → Prop} (F : Fr h₀ L s.heap m) (N : News h₀ L s.heap news)
    (h : ∀ t1 t2 t3 t4 D h' k, Fr h₀ L h' m → News h₀ L h' ((D, lstOf [.bytes #[66, a] t1, .bytes #[66, b] t2, .bytes #[66, c] t3, .bytes #[66, d] t4]) :: news) → (∀ x ∈ news, x.1 < D) → Q (.ref D) { s with heap := h', toks := k }) :
    wpAny (model prog w) A (call (.builtin "bytes.split") [.bytes (flagsB a b c d) t]) Q E s :=
  call_meets slot_bytes_split (typeIs_bytes _ _ _) entry_bytes_split (args_bytes_split _) (meets_split a b c d ha hb hc hd t) fun t1 t2 t3 t4 k =>
    h t1 t2 t3 t4 _ _ k (F.push _) (N.push F _) (fun x hx => Heap.lt_size (N x hx).1)
end
local macro_rules | `(tactic| walk_at "getMethod ref") => `(tactic| (k_extra "MY Pf1"))
local macro_rules | `(tactic| walk_at "getMethod ref") => `(tactic| (k_extra "MY Pf2"))
local macro_rules | `(tactic| walk_at "getMethod bytes") => `(tactic| (k_here; (with_reducible refine gm_split ?_)))
local macro_rules | `(tactic| walk_at "truthy ref") => `(tactic| (k_extra "MY Pf3"))
local macro_rules | `(tactic| walk_at "call builtin:re.Pattern.match") => `(tactic| (k_extra "MY Pf4"; intro T' M' h' k' F' N' l1 l2))
local macro_rules | `(tactic| walk_at "call builtin:re.Match.group") => `(tactic| (k_extra "MY Pf5"; intro k' t'))
local macro_rules | `(tactic| walk_at "call builtin:bytes.split") => `(tactic| (k_extra "MY Pf6"; intro t1' t2' t3' t4' D' h' k' F' N' l1))
theorem news1 {h₀ h : Heap} {L : Addr} {l news : List (Addr × Obj)} {q : Addr × Obj} (N : News h₀ L h l) (hq : q ∈ l) (hs : ∀ p ∈ news, p ∈ l) : News h₀ L h (q :: news) := fun p hp => (List.mem_cons.mp hp).elim (fun e => e ▸ N q hq) fun hp => N p (hs p hp)
local macro_rules | `(tactic| walk_at "MY sub") => `(tactic| k_extra "MY Pf31")
noncomputable def PfRes (a b c d : UInt8) (v : Value) (tl : List (Addr × Obj)) : Prop := ∃ D t1 t2 t3 t4, v = .ref D ∧ tl = [(D, tupOf [.bytes #[66, a] t1, .bytes #[66, b] t2, .bytes #[66, c] t3, .bytes #[66, d] t4])]
set_option maxHeartbeats 8000000 in
theorem c_pf (w : World) (mean : ExcName → Option Value) (mg mb : Str → Option Value) (news : List (Addr × Obj)) (a b c d : UInt8) (ha : okL a.toNat) (hb : okL b.toNat) (hc : okL c.toNat) (hd : okL d.toNat) (t : Tok)  :
   Ctr w mean mg mb 64 3 news [.bytes (lineB a b c d) t] (PfRes a b c d) := by
  w_top off
  k_with_none
  k_with "MY Pf31" => ((intro p' hp'; repeat (first | exact hp' | refine List.Mem.tail _ ?_)))
  k_with "MY Pf1" => (k_here; k_dflt (refine' gm_match ?k1 ?k2 ?k3 ?k4 ?k5 ?_; (case k1 => k_asm); (case k2 => k_asm); (case k3 => k_is); (case k4 => rfl); (case k5 => rfl)))
  k_with "MY Pf2" => (k_here; k_dflt (refine' gm_group ?k1 ?k2 ?k3 ?k4 ?_; (case k1 => k_asm); (case k2 => k_mem); (case k3 => rfl); (case k4 => rfl)))
  k_with "MY Pf3" => (k_here; k_dflt (refine' truthy_mat ?k1 ?k2 ?k3 ?_; (case k1 => k_asm); (case k2 => k_mem); (case k3 => rfl)))
  k_with "MY Pf4" => (k_here; k_dflt (refine' k_match ?h1 ?h2 ?h3 ?h4 ?k1 ?k2 ?k3 ?k4 ?k5 ?k6 ?k7 ?k8 ?_; (case h1 => assumption); (case h2 => assumption); (case h3 => assumption); (case h4 => assumption); (case k1 => k_asm); (case k2 => k_asm); (case k3 => k_asm); (case k4 => k_is); (case k5 => rfl); (case k6 => rfl); (case k7 => k_is); (case k8 => rfl)))
  k_with "MY Pf5" => (k_here; k_dflt (refine' k_group ?k1 ?k2 ?k3 ?k4 ?k5 ?k6 ?k7 ?k8 ?k9 ?p1 ?p2 ?p3 ?p4 ?_; (case k1 => k_asm); (case k2 => k_asm); (case k3 => k_asm); (case k4 => k_mem); (case k5 => rfl); (case k6 => rfl); (case k7 => k_mem); (case k8 => rfl); (case k9 => k_is); (case p1 => rfl); (case p2 => k_is); (case p3 => exact ⟨⟨_, _, rfl, rfl⟩, trivial⟩); (case p4 => k_is)))
  k_with "MY Pf6" => (k_here; k_dflt (refine' k_split ?h1 ?h2 ?h3 ?h4 ?k1 ?k2 ?_; (case h1 => assumption); (case h2 => assumption); (case h3 => assumption); (case h4 => assumption); (case k1 => k_asm); (case k2 => k_asm)))
  unfold Ctr
  k_fill
  intro dp un gd cn cs ad ccd cl outer A₀ base h₀ L m s Q E B F X N T hk hd' hu hret
  refine wpAny_call ?_
  k_dflt cell_enter
  k_with_none
  k_with "MY Pf31" => ((intro p' hp'; repeat (first | exact hp' | refine List.Mem.tail _ ?_)))
  k_with "MY Pf1" => (k_here; k_dflt (refine' gm_match ?k1 ?k2 ?k3 ?k4 ?k5 ?_; (case k1 => k_asm); (case k2 => k_asm); (case k3 => k_is); (case k4 => rfl); (case k5 => rfl)))
  k_with "MY Pf2" => (k_here; k_dflt (refine' gm_group ?k1 ?k2 ?k3 ?k4 ?_; (case k1 => k_asm); (case k2 => k_mem); (case k3 => rfl); (case k4 => rfl)))
  k_with "MY Pf3" => (k_here; k_dflt (refine' truthy_mat ?k1 ?k2 ?k3 ?_; (case k1 => k_asm); (case k2 => k_mem); (case k3 => rfl)))
  k_with "MY Pf4" => (k_here; k_dflt (refine' k_match ?h1 ?h2 ?h3 ?h4 ?k1 ?k2 ?k3 ?k4 ?k5 ?k6 ?k7 ?k8 ?_; (case h1 => assumption); (case h2 => assumption); (case h3 => assumption); (case h4 => assumption); (case k1 => k_asm); (case k2 => k_asm); (case k3 => k_asm); (case k4 => k_is); (case k5 => rfl); (case k6 => rfl); (case k7 => k_is); (case k8 => rfl)))
  k_with "MY Pf5" => (k_here; k_dflt (refine' k_group ?k1 ?k2 ?k3 ?k4 ?k5 ?k6 ?k7 ?k8 ?k9 ?p1 ?p2 ?p3 ?p4 ?_; (case k1 => k_asm); (case k2 => k_asm); (case k3 => k_asm); (case k4 => k_mem); (case k5 => rfl); (case k6 => rfl); (case k7 => k_mem); (case k8 => rfl); (case k9 => k_is); (case p1 => rfl); (case p2 => k_is); (case p3 => exact ⟨⟨_, _, rfl, rfl⟩, trivial⟩); (case p4 => k_is)))
  k_with "MY Pf6" => (k_here; k_dflt (refine' k_split ?h1 ?h2 ?h3 ?h4 ?k1 ?k2 ?_; (case h1 => assumption); (case h2 => assumption); (case h3 => assumption); (case h4 => assumption); (case k1 => k_asm); (case k2 => k_asm)))
  k_steps
  refine' hret _ [_] _ _ ⟨_, _, _, _, _, rfl, rfl⟩ ?F ?N ?o
  (case F => k_asm)
  (case N => exact news1 (by assumption) (by k_mem) (by walk_at "MY sub"))
  (case o => ((with_reducible rename _ ∧ _ ∧ _ ∧ AllLt _ _ => q9); exact ktn_ord1 q9.2.2.2))
end Mine
namespace Mine
noncomputable def ltr (r : Int) : UInt8 := UInt8.ofNat (65 + r.toNat)
theorem ltr_ok {r : Int} (h0 : 0 ≤ r) (h1 : r < 16) : okL (ltr r).toNat := by
  have key : ∀ k : Fin 16, 65 ≤ (ltr (k.val : Int)).toNat ∧ (ltr (k.val : Int)).toNat ≤ 80 := by decide +kernel
  have := key ⟨r.toNat, by omega⟩
  simp only [Int.toNat_of_nonneg h0] at this
  exact this
theorem ap16 {r : Int} (h0 : 0 ≤ r) (h1 : r < 16) : (apL 4 (16 + r) []).toArray = #[66, ltr r] := by
  have key : ∀ k : Fin 16, (apL 4 (16 + (k.val : Int)) []).toArray = #[66, ltr (k.val : Int)] := by decide +kernel
  have := key ⟨r.toNat, by omega⟩
  simp only [Int.toNat_of_nonneg h0] at this
  exact this
theorem c_ap16 (w : World) (mean : ExcName → Option Value) (mg mb : Str → Option Value) (news : List (Addr × Obj)) (r : Int) (t : Tok) (h0 : 0 ≤ r) (h1 : r < 16) :
   Ctr w mean mg mb 57 1 news [.int (16 + r) t] (fun v tl => tl = [] ∧ ∃ t, v = .bytes #[66, ltr r] t) := by
  have := c_ap w mean mg mb news (16 + r) t (by omega)
  rw [ap16 h0 h1] at this
  exact this
theorem c_pf2 (w : World) (mean : ExcName → Option Value) (mg mb : Str → Option Value) (news : List (Addr × Obj)) (a b c d : UInt8) (x : Array UInt8) (hx : x = lineB a b c d) (ha : okL a.toNat) (hb : okL b.toNat) (hc : okL c.toNat) (hd : okL d.toNat) (t : Tok)  :
   Ctr w mean mg mb 64 3 news [.bytes x t] (PfRes a b c d) := by
  subst hx
  exact c_pf w mean mg mb news a b c d ha hb hc hd t
local macro_rules | `(tactic| k_asm) => `(tactic| k_extra "MY asm")
local macro_rules | `(tactic| walk_at "binaryOp Add bytes bytes") => `(tactic| (k_extra "MY Wd1"))
local macro_rules | `(tactic| walk_at "call ref") => `(tactic| (k_extra "MY Wd2"; k_extra "MY Wd61"))
local macro_rules | `(tactic| walk_at "call ref") => `(tactic| (k_extra "MY Wd3"; k_extra "MY Wd62"))
theorem picked_f (x : UInt8) : KBy.picked #[66, x] (some 1) none = #[x] := by
  rw [KBc.picked_eq]
  rfl
theorem slice_f {prog : Program} {w : World} {A : Around} {E : Value → Shared → Prop} {s : Shared} {value slice : PySem.Expr} {t : Tok} {h₀ : Heap} {L : Addr} {m : PySem.Str → Option Value} {news : List (Addr × Obj)} {x : UInt8} {t1 : Tok} {Q : Value → Shared → Prop}
    (hF : Fr h₀ L s.heap m) (hN : News h₀ L s.heap news)
    (h : ∀ h' t' k, Fr h₀ L h' m → News h₀ L h' news → Q (.bytes #[x] t') { s with heap := h', toks := k })
    (hs : subscripted slice false (.bytes #[66, x] t) (.ref s.heap.objs.size) = operate [.ref s.heap.objs.size, .bytes #[66, x] t] (getItem (.bytes #[66, x] t) (.ref s.heap.objs.size)) := by with_unfolding_all rfl)
    (ht : ∀ r, letTemporaryGo value (.bytes #[66, x] t) r = pure () := by intro _; with_unfolding_all rfl) :
    wpAny (model prog w) A (subscriptTail value slice (.bytes #[66, x] t) (.ref s.heap.objs.size)) Q E { s with heap := s.heap.push { cls := .type "slice", data := .fields #[.int 1 t1, .none, .none] } } := by
  refine KBc.slice_K hF hN rfl (by constructor) (by constructor) (show 2 ≤ 16777216 by decide) (fun h' t' k F' N' _ => ?_) hs ht
  rw [picked_f]
  exact h h' t' k F' N'
local macro_rules | `(tactic| walk_at "subscriptTail") => `(tactic| (k_extra "MY Wd4"; k_extra "MY Wd31"; intro h' t' k' F' N'))
theorem ne_emp {prog : Program} {w : World} {A : Around} {E : Value → Shared → Prop} {s : Shared} {t u : Tok} {Q : Value → Shared → Prop} (h : Q (.bool false) s) : wpAny (model prog w) A (compareOp .NotEq (.bytes #[] t) (.bytes #[] u)) Q E s := ne_bytes h
theorem ne_more {prog : Program} {w : World} {A : Around} {E : Value → Shared → Prop} {s : Shared} {b : Array UInt8} {t u : Tok} {Q : Value → Shared → Prop} (hb : 1 ≤ b.size) (h : Q (.bool true) s) : wpAny (model prog w) A (compareOp .NotEq (.bytes b t) (.bytes #[] u)) Q E s := by
  refine ne_bytes ?_
  have e : (b.toList != (#[] : Array UInt8).toList) = true := by
    rw [bne_iff_ne]
    intro h
    have : b.size = 0 := by rw [← Array.length_toList, h]; rfl
    omega
  rw [e]
  exact h
local macro_rules | `(tactic| walk_at "compareOp NotEq bytes bytes") => `(tactic| (k_extra "MY Wd5"))
local macro_rules | `(tactic| walk_at "compareOp NotEq bytes bytes") => `(tactic| (k_extra "MY Wd6"))
local macro_rules | `(tactic| walk_at "exec For Name Subscript cons nil") => `(tactic| k_extra "MY Wd32")
local macro_rules | `(tactic| walk_at "exec For Name Call cons nil") => `(tactic| k_extra "MY Wd33")
local macro_rules | `(tactic| walk_at "MY enterR") => `(tactic| (k_extra "MY Wd7"; intro g' L' h' FG' F' N' B' X' T' gk'; (try dsimp only); (try k_lift B'); (try k_fold)))
noncomputable def wd4 (a b c d : UInt8) : List UInt8 :=
  match ([a] != [65]) with
  | true => [a, b, c, d]
  | false => match ([b] != [65]) with
    | true => [b, c, d]
    | false => match ([c] != [65]) with
      | true => [c, d]
      | false => match ([d] != [65]) with
        | true => [d]
        | false => []
set_option maxHeartbeats 8000000 in
theorem c_word (w : World) (mean : ExcName → Option Value) (mg mb : Str → Option Value) (R : Addr) (r0 r1 r2 r3 : Int) (t0 t1 t2 t3 : Tok) (h0 : 0 ≤ r0 ∧ r0 < 16) (h1 : 0 ≤ r1 ∧ r1 < 16) (h2 : 0 ≤ r2 ∧ r2 < 16) (h3 : 0 ≤ r3 ∧ r3 < 16) :
   CtrN w mean mg mb (fun _ => True) 102 5 [(R, lstOf [.int r0 t0, .int r1 t1, .int r2 t2, .int r3 t3])] [.ref R] (fun v tl => tl = [] ∧ ∃ t, v = .bytes (wd4 (ltr r3) (ltr r2) (ltr r1) (ltr r0)).toArray t) := by
  w_top off
  k_with_none
  k_with "MY Wd61" => (intro v' tl' h' tk' hres' F' N' ho'; (refine Exists.elim hres'.2 ?_); intro t' hv'; (have htl' := hres'.1); subst hv' htl'; clear hres' ho'; (simp only [List.nil_append] at N'); (try dsimp only); (try k_fold))
  k_with "MY Wd62" => (intro v' tl' h' tk' hres' F' N' ho'; (obtain ⟨D', t1', t2', t3', t4', hv', ht'⟩ := hres'); subst hv' ht'; (replace ho' := ordOf ho'); (simp only [List.cons_append, List.nil_append] at N'); (try dsimp only); (try k_fold))
  k_with "MY asm" => (first | with_reducible assumption | assumption | exact nTail (by assumption) | exact nTail (nTail (by assumption)))
  k_with "MY Wd31" => ((with_reducible rename Fr _ _ _ _ => Fz9); (with_reducible rename News _ _ _ _ => Nz9); (refine slice_f (s := ⟨_, _, _, _, _⟩) Fz9 Nz9 ?_))
  k_with "MY Wd32" => (k_here; (rename Fr _ _ _ _ => lFz9); (with_unfolding_all refine' For_invVF lFz9 ?k1 ?k2 ?_; (case k1 => exact rfl); (case k2 => exact rfl); k_whole))
  k_with "MY Wd33" => (k_here; (rename Fr _ _ _ _ => lFz9); (with_unfolding_all refine' For_turns lFz9 ?_; k_whole))
  k_with "MY Wd1" => (k_here; (with_reducible show wpAny _ _ (binaryOp Operator.Add (Value.bytes _ _) (Value.bytes _ _)) _ _ _); (refine' KBy.add_bytes ?hsz (fun _ _ => ?_)); (case hsz => (simp only [List.size_toArray, List.length_cons, List.length_nil, Array.size_append]; omega)))
  k_with "MY Wd2" => (k_here; k_dflt (refine' (c_ap16 _ _ _ _ _ _ _ ?h1 ?h2) _ _ _ _ _ _ _ _ _ _ _ _ _ _ _ _ _ ?k1 ?k2 ?k3 ?k4 ?k5 ?kK ?kd ?ku ?_; (case k4 => k_asm); (case k1 => k_asm); (case k2 => k_asm); (case k3 => k_asm); (case k5 => k_asm); (case kK => first | exact rfl | assumption); (case kd => ktr_room); (case ku => ktr_units); (case h1 => omega); (case h2 => omega)))
  k_with "MY Wd3" => (k_here; k_dflt (refine' (c_pf2 _ _ _ _ _ (ltr _) (ltr _) (ltr _) (ltr _) _ ?hx ?h1 ?h2 ?h3 ?h4 _) _ _ _ _ _ _ _ _ _ _ _ _ _ _ _ _ _ ?k1 ?k2 ?k3 ?k4 ?k5 ?kK ?kd ?ku ?_; (case k4 => k_asm); (case k1 => k_asm); (case k2 => k_asm); (case k3 => k_asm); (case k5 => k_asm); (case kK => first | exact rfl | assumption); (case kd => ktr_room); (case ku => ktr_units); (case hx => rfl); (case h1 => (apply ltr_ok <;> omega)); (case h2 => (apply ltr_ok <;> omega)); (case h3 => (apply ltr_ok <;> omega)); (case h4 => (apply ltr_ok <;> omega))))
  k_with "MY Wd4" => (k_here; (with_reducible show wpAny _ _ (subscriptTail _ _ (Value.bytes _ _) (Value.ref _)) _ _ _))
  k_with "MY Wd5" => (k_here; (with_reducible show wpAny _ _ (compareOp CmpOp.NotEq (Value.bytes (_ ++ _) _) (Value.bytes #[] _)) _ _ _); (with_reducible refine' ne_more ?z ?_); (case z => (simp only [List.size_toArray, List.length_cons, List.length_nil, Array.size_append]; omega)))
  k_with "MY Wd6" => (k_here; (with_reducible show wpAny _ _ (compareOp CmpOp.NotEq (Value.bytes #[] _) (Value.bytes #[] _)) _ _ _); (with_reducible refine ne_emp ?_))
  k_with "MY Wd7" => (refine' enterR ?k1 ?k2 ?k3 ?k4 ?k5 ?kA ?kF ?kK ?k6 ?k7 ?k8 ?k9 ?kB ?_ ?c2 ?c3 ?c4 ?c5; (case kA => exact rfl); (case kF => exact rfl); (case kK => assumption); (case k1 => k_asm); (case k2 => k_asm); (case k3 => k_asm); (case k4 => k_asm); (case k5 => k_asm); (case k6 => k_is); (case k7 => k_is); (case k8 => ktr_room); (case k9 => exact BindsTo.of_eq rfl); (case c5 => decide); (case kB => exact locs rfl); (case c2 => exact rfl); (case c3 => exact rfl); (case c4 => exact rfl); k_whole)
  obtain ⟨b1, b2⟩ := h0
  obtain ⟨b3, b4⟩ := h1
  obtain ⟨b5, b6⟩ := h2
  obtain ⟨b7, b8⟩ := h3
  unfold CtrN
  k_fill
  intro dp un gd cn cs ad ccd cl outer A₀ base h₀ L m s Q E B F X N T hk hd' hu _ hret
  refine wpAny_call ?_
  k_dflt (walk_at "MY enterR")
  rename_i g' L' h' FG' F' N' B' X' T' gk'
  k_with_none
  k_with "MY Wd61" => (intro v' tl' h' tk' hres' F' N' ho'; (refine Exists.elim hres'.2 ?_); intro t' hv'; (have htl' := hres'.1); subst hv' htl'; clear hres' ho'; (simp only [List.nil_append] at N'); (try dsimp only); (try k_fold))
  k_with "MY Wd62" => (intro v' tl' h' tk' hres' F' N' ho'; (obtain ⟨D', t1', t2', t3', t4', hv', ht'⟩ := hres'); subst hv' ht'; (replace ho' := ordOf ho'); (simp only [List.cons_append, List.nil_append] at N'); (try dsimp only); (try k_fold))
  k_with "MY asm" => (first | with_reducible assumption | assumption | exact nTail (by assumption) | exact nTail (nTail (by assumption)))
  k_with "MY Wd31" => ((with_reducible rename Fr _ _ _ _ => Fz9); (with_reducible rename News _ _ _ _ => Nz9); (refine slice_f (s := ⟨_, _, _, _, _⟩) Fz9 Nz9 ?_))
  k_with "MY Wd32" => (k_here; (rename Fr _ _ _ _ => lFz9); (with_unfolding_all refine' For_invVF lFz9 ?k1 ?k2 ?_; (case k1 => exact rfl); (case k2 => exact rfl); k_whole))
  k_with "MY Wd33" => (k_here; (rename Fr _ _ _ _ => lFz9); (with_unfolding_all refine' For_turns lFz9 ?_; k_whole))
  k_with "MY Wd1" => (k_here; (with_reducible show wpAny _ _ (binaryOp Operator.Add (Value.bytes _ _) (Value.bytes _ _)) _ _ _); (refine' KBy.add_bytes ?hsz (fun _ _ => ?_)); (case hsz => (simp only [List.size_toArray, List.length_cons, List.length_nil, Array.size_append]; omega)))
  k_with "MY Wd2" => (k_here; k_dflt (refine' (c_ap16 _ _ _ _ _ _ _ ?h1 ?h2) _ _ _ _ _ _ _ _ _ _ _ _ _ _ _ _ _ ?k1 ?k2 ?k3 ?k4 ?k5 ?kK ?kd ?ku ?_; (case k4 => k_asm); (case k1 => k_asm); (case k2 => k_asm); (case k3 => k_asm); (case k5 => k_asm); (case kK => first | exact rfl | assumption); (case kd => ktr_room); (case ku => ktr_units); (case h1 => omega); (case h2 => omega)))
  k_with "MY Wd3" => (k_here; k_dflt (refine' (c_pf2 _ _ _ _ _ (ltr _) (ltr _) (ltr _) (ltr _) _ ?hx ?h1 ?h2 ?h3 ?h4 _) _ _ _ _ _ _ _ _ _ _ _ _ _ _ _ _ _ ?k1 ?k2 ?k3 ?k4 ?k5 ?kK ?kd ?ku ?_; (case k4 => k_asm); (case k1 => k_asm); (case k2 => k_asm); (case k3 => k_asm); (case k5 => k_asm); (case kK => first | exact rfl | assumption); (case kd => ktr_room); (case ku => ktr_units); (case hx => rfl); (case h1 => (apply ltr_ok <;> omega)); (case h2 => (apply ltr_ok <;> omega)); (case h3 => (apply ltr_ok <;> omega)); (case h4 => (apply ltr_ok <;> omega))))
  k_with "MY Wd4" => (k_here; (with_reducible show wpAny _ _ (subscriptTail _ _ (Value.bytes _ _) (Value.ref _)) _ _ _))
  k_with "MY Wd5" => (k_here; (with_reducible show wpAny _ _ (compareOp CmpOp.NotEq (Value.bytes (_ ++ _) _) (Value.bytes #[] _)) _ _ _); (with_reducible refine' ne_more ?z ?_); (case z => (simp only [List.size_toArray, List.length_cons, List.length_nil, Array.size_append]; omega)))
  k_with "MY Wd6" => (k_here; (with_reducible show wpAny _ _ (compareOp CmpOp.NotEq (Value.bytes #[] _) (Value.bytes #[] _)) _ _ _); (with_reducible refine ne_emp ?_))
  k_with "MY Wd7" => (refine' enterR ?k1 ?k2 ?k3 ?k4 ?k5 ?kA ?kF ?kK ?k6 ?k7 ?k8 ?k9 ?kB ?_ ?c2 ?c3 ?c4 ?c5; (case kA => exact rfl); (case kF => exact rfl); (case kK => assumption); (case k1 => k_asm); (case k2 => k_asm); (case k3 => k_asm); (case k4 => k_asm); (case k5 => k_asm); (case k6 => k_is); (case k7 => k_is); (case k8 => ktr_room); (case k9 => exact BindsTo.of_eq rfl); (case c5 => decide); (case kB => exact locs rfl); (case c2 => exact rfl); (case c3 => exact rfl); (case c4 => exact rfl); k_whole)
  k_steps
  all_goals (
    (with_reducible rename (#[ltr r3].toList != #[65].toList) = _ => q3)
    (try (with_reducible rename (#[ltr r2].toList != #[65].toList) = _ => q2))
    (try (with_reducible rename (#[ltr r1].toList != #[65].toList) = _ => q1))
    (try (with_reducible rename (#[ltr r0].toList != #[65].toList) = _ => q0))
    (change ([ltr r3] != [65]) = _ at q3)
    (try change ([ltr r2] != [65]) = _ at q2)
    (try change ([ltr r1] != [65]) = _ at q1)
    (try change ([ltr r0] != [65]) = _ at q0)
    refine' hret _ [] _ _ ⟨rfl, _, ?e⟩ ?F ?N ?kp
    (case e => ((unfold wd4); (simp only [q3]); (try simp only [q2]); (try simp only [q1]); (try simp only [q0]); rfl))
    (case F => k_asm)
    (case N => (intro p' hp'; exact (by assumption : News _ _ _ _) p' (by (rw [List.mem_singleton.mp hp']; k_mem))))
    (case kp => exact fun b o e nb => Fr.keep (by assumption) b o (gk' b o e nb)))
end Mine
namespace Mine
local macro_rules | `(tactic| walk_at "storeName") => `(tactic| dsimp only)
local macro_rules | `(tactic| walk_at "CompEnd") => `(tactic| dsimp only)
local macro_rules | `(tactic| k_ne) => `(tactic| (refine neN ?_; (try dsimp only); first | k_extra "MY ne" | omega))
section
variable {prog : Program} {w : World} {A A₀ : Around} {s : Shared} {K : Frag} {f L : Addr} {h₀ base : Heap} {m mg mb : Str → Option Value} {news : List (Addr × Obj)} {p : Program} {loose : List Str} {mean : ExcName → Option Value}
theorem enterRD {env : Env} {outer : List Env} {R : Result → Shared → Prop} {name qual : Str} {params : Arguments} {body : List Stmt} {scope : Scope} {dV kV doc pm cdv ct oc : Value} {an od : Option Addr} {osl : Array (Option Value)} {args : Args} {binds : List (Str × Value)}
    (B : Below A₀ base outer h₀) (F : Fr h₀ L s.heap m) (X₀ : K.In h₀) (N : News h₀ L s.heap news) (T : Top p loose mean mg mb h₀) (hA : A.frames = some (env :: outer)) (hf : env.frame = some L) (hke : env.scope.kind = .function)
    (ho : K.lookup f = some ⟨oc, od, .func (fnOf name qual params body scope dV kV doc pm an cdv ct), osl⟩) (hcd : codeIn K cdv qual = true) (hroom : A.depth < recursionLimit)
    (hbind : BindsTo s (fnOf name qual params body scope dV kV doc pm an cdv ct) args binds) (hkind : (binds.all fun y => scope.names.lookup y.1 == some .local || scope.names.lookup y.1 == some .cell) = true)
    (hnd : ((cellsFrom 0 scope.names []).map (·.1)).Nodup)
    (h : ∀ g L' h₁ tk cells, Fr h₀ L g m → Fr g L' h₁ (bindL (envOfC qual scope L' f cdv).kindOf binds fun _ => none) → News g L' h₁ (cells ++ news) →
      CellsAre (bindC (envOfC qual scope L' f cdv).kindOf binds fun _ => none) (cellsFrom (L' + 1) scope.names []) cells → Below A base (env :: outer) g → K.In g → Top p loose mean mg mb g → (∀ p ∈ news, p.1 < L') →
      (∀ b o, s.heap.get? b = some o → b ∉ news.map (·.1) → g.get? b = some o) → s.heap.objs.size ≤ L' →
      wpAny (model prog w) (A.deeper (envOfC qual scope L' f cdv)) (execs body (envOfC qual scope L' f cdv))
        (fun fl s' => LeaveK h₀ L m g R (match fl with | .ret v => v | _ => .none) s')
        (fun e s' => wpAny (model prog w) (A.deeper (envOfC qual scope L' f cdv)) (leaving (envOfC qual scope L' f cdv) e) (fun _ s'' => R (.error e) s'') (fun e' s'' => R (.error e') s'') s')
        { s with heap := h₁, toks := tk })
    (hco : scope.isCoroutine = false) (hgen : scope.isGenerator = false) (hk : scope.kind = .function) : codeAny (model prog w) A (.call (.ref f) args) R s := by
  obtain ⟨FG, BG, st, lv⟩ := groundX (R := R) B F N hA hf hke
  refine codeAny_call_function hroom ((X₀.keeps F.keep) _ _ ho) rfl hco hgen rfl (codeRec_of (X₀.keeps F.keep) hcd) (hbind _ _ _ _ (wpAny_newFunctionEnv_cells hk (kindsX hkind _) fun env' he s' x => ?_))
  subst he
  obtain ⟨h₁, tk, rfl, _⟩ := x.done
  have keep₁ := x.toInCall.keep
  obtain ⟨cells, NC, Y⟩ := Cl.news (h₀ := s.heap) (Nat.le_refl _) fun n c hm => ⟨x.cell n c (lookup_of_mem_nodup (cellsFrom_names scope.names 0 (s.heap.objs.size + 1) [] [] rfl ▸ hnd) hm), x.above n c hm⟩
  have hidden : ∀ b, s.heap.get? b = none → (hideAll s.heap (news.map (·.1))).get? b = none := fun b hb => by
    cases q : (hideAll s.heap (news.map (·.1))).get? b with
    | none => rfl
    | some o => exact absurd ((of_hideAll _ q).symm.trans hb) (fun e => nomatch e)
  have NN : News (hideAll s.heap (news.map (·.1))) s.heap.objs.size h₁ (cells ++ news) := fun p hp => by
    rcases List.mem_append.mp hp with hc | hn
    · exact ⟨(NC p hc).1, (NC p hc).2.1, hidden _ (NC p hc).2.2⟩
    · exact ⟨keep₁ _ _ (N p hn).1, Nat.ne_of_lt (Heap.lt_size (N p hn).1), hideAll_none _ (List.mem_map_of_mem hn)⟩
  refine ⟨(T.nolimit.keeps F.keep).keeps keep₁, codeAny_func (wpAny_mono (h _ s.heap.objs.size h₁ tk cells FG ⟨x.toInCall.ns, fun b o e => keep₁ b o (of_hideAll _ e), Nat.le_of_eq (hideAll_size _ _)⟩ NN Y BG (X₀.keeps st) (T.keeps st) (fun p hp => Heap.lt_size (N p hp).1) (fun b o e nb => hideAll_get _ e nb) (Nat.le_refl _)) (fun fl s' hl => lv _ _ hl) fun _ _ y => y)⟩
end
abbrev CtrO (w : World) (mean : ExcName → Option Value) (mg mb : Str → Option Value) (pre : Heap → Prop) (f : Addr) (k : Nat) (args : List (Addr × Obj)) (vs : List Value) (Res : Value → List (Addr × Obj) → Prop) : Prop :=
  ∀ (dp un : Nat) (gd : Option (List Code)) (cn : Str) (cs : Scope) (a : Addr) (ccd : Value) (cl : List (Str × Addr)) (outer : List Env) (A₀ : Around) (base h₀ : Heap) (L : Addr) (m : Str → Option Value) (s : Shared) (Q E : Value → Shared → Prop),
    Below A₀ base outer h₀ → Fr h₀ L s.heap m → (hd.heap_39 w.params).In h₀ → News h₀ L s.heap args → Top hd.view_39 (looseW hd.view_39 [Str.ofString "Flags"]) mean mg mb h₀ → cs.kind = .function → dp + k < recursionLimit → un + 8 * k < cLine → pre base →
    (∀ v tl h' tk', Res v tl → Fr h₀ L h' m → News h₀ L h' (tl ++ args) → (∀ b o, s.heap.get? b = some o → b ∉ args.map (·.1) → h'.get? b = some o) → (∀ p ∈ tl, s.heap.objs.size ≤ p.1) → Q v { s with heap := h', toks := tk' }) →
    wpAny (model PySem.Challenge.rw_tp0006_01.row.prog w) (ktrTop dp un gd cn cs L a ccd cl outer) (call (.ref f) vs) Q E s
local macro_rules | `(tactic| walk_at "MY enterRC") => `(tactic| (k_extra "MY Ed1"; intro g' L' h' tk' cells' FG' F' N' Y' B' X' T' l1 gk' lz'; (try k_lt l1); k_cells Y'; (try simp only [List.cons_append, List.nil_append] at N'); (try dsimp only); (try k_lift B'); (try k_fold)))
noncomputable def partsF (dx dy : Int) : Int := if dx.fmod 3 = 0 ∧ dy.fmod 3 = 0 then 3 else if dx.fmod 2 = 0 ∧ dy.fmod 2 = 0 then 2 else 1
theorem parts3 {dx dy M : Int} (h1 : dx.fmod (1 + ((0 + 1 + 1 : Nat) : Int)) = 0) (h2 : dy.fmod (1 + ((0 + 1 + 1 : Nat) : Int)) = 0) (h : M = 3) : M = partsF dx dy := by
  have h1 : dx.fmod 3 = 0 := h1
  have h2 : dy.fmod 3 = 0 := h2
  unfold partsF
  rw [if_pos ⟨h1, h2⟩, h]
theorem parts2 {dx dy M : Int} (h3 : dx.fmod (1 + ((0 + 1 + 1 : Nat) : Int)) ≠ 0 ∨ dy.fmod (1 + ((0 + 1 + 1 : Nat) : Int)) ≠ 0) (h1 : dx.fmod (1 + ((0 + 1 : Nat) : Int)) = 0) (h2 : dy.fmod (1 + ((0 + 1 : Nat) : Int)) = 0) (h : M = 2) : M = partsF dx dy := by
  have h1 : dx.fmod 2 = 0 := h1
  have h2 : dy.fmod 2 = 0 := h2
  have h3 : dx.fmod 3 ≠ 0 ∨ dy.fmod 3 ≠ 0 := h3
  unfold partsF
  rw [if_neg (fun q => h3.elim (fun e => e q.1) (fun e => e q.2)), if_pos ⟨h1, h2⟩, h]
theorem parts1 {dx dy M : Int} (h3 : dx.fmod (1 + ((0 + 1 + 1 : Nat) : Int)) ≠ 0 ∨ dy.fmod (1 + ((0 + 1 + 1 : Nat) : Int)) ≠ 0) (h2 : dx.fmod (1 + ((0 + 1 : Nat) : Int)) ≠ 0 ∨ dy.fmod (1 + ((0 + 1 : Nat) : Int)) ≠ 0) (h : M = 1) : M = partsF dx dy := by
  have h3 : dx.fmod 3 ≠ 0 ∨ dy.fmod 3 ≠ 0 := h3
  have h2 : dx.fmod 2 ≠ 0 ∨ dy.fmod 2 ≠ 0 := h2
  unfold partsF
  rw [if_neg (fun q => h3.elim (fun e => e q.1) (fun e => e q.2)), if_neg (fun q => h2.elim (fun e => e q.1) (fun e => e q.2)), h]
theorem fm1 (x : Int) : x.fmod (1 + ((0 : Nat) : Int)) = 0 := by
  show x.fmod 1 = 0
  rw [Int.fmod_eq_emod_of_nonneg x (by decide)]
  omega
noncomputable def EdRes (dx dy : Int) (v : Value) (tl : List (Addr × Obj)) : Prop := ∃ D t u, v = .ref D ∧ tl = [(D, tupOf [.int (dx.fdiv (partsF dx dy)) t, .int (dy.fdiv (partsF dx dy)) u])]
theorem ed_obj {D : Addr} {dx dy M : Int} {t u : Tok} (h : M = partsF dx dy) : EdRes dx dy (.ref D) [(D, tupOf [.int (dx.fdiv M) t, .int (dy.fdiv M) u])] := by
  subst h
  exact ⟨D, t, u, rfl, rfl⟩
theorem eq_intK {prog : Program} {w : World} {A : Around} {E : Value → Shared → Prop} {s : Shared} {x y : Int} {t u : Tok} {Q : Value → Shared → Prop} (e : x = y) (h : Q (.bool true) s) : wpAny (model prog w) A (compareOp .Eq (.int x t) (.int y u)) Q E s := eq_int (by rw [beq_iff_eq.mpr e]; exact h)
theorem newsSub {h₀ h : Heap} {L : Addr} {l l' : List (Addr × Obj)} (N : News h₀ L h l) (hs : ∀ p ∈ l', p ∈ l) : News h₀ L h l' := fun p hp => N p (hs p hp)
set_option maxHeartbeats 8000000 in
theorem c_edge (w : World) (mean : ExcName → Option Value) (mg mb : Str → Option Value) (a1 a2 : Addr) (x0 y0 x1 y1 : Int) (t0 u0 t1 u1 : Tok) (hx0 : 0 ≤ x0 ∧ x0 ≤ 3) (hy0 : 0 ≤ y0 ∧ y0 ≤ 3) (hx1 : 0 ≤ x1 ∧ x1 ≤ 3) (hy1 : 0 ≤ y1 ∧ y1 ≤ 3) :
   CtrO w mean mg mb (fun _ => True) 107 3 [(a1, spotOf x0 y0 t0 u0), (a2, spotOf x1 y1 t1 u1)] [.ref a1, .ref a2] (EdRes (x1 - x0) (y1 - y0)) := by
  w_top off
  k_with_none
  k_with "MY ne" => (with_reducible (rename (_ ∧ _ ∧ _) ∧ _ ∧ _ ∧ _ => q; first | exact q.1.1 | exact Ne.symm q.1.1 | exact q.1.2.1 | exact Ne.symm q.1.2.1 | exact q.1.2.2 | exact Ne.symm q.1.2.2 | exact q.2.1.1 | exact Ne.symm q.2.1.1 | exact q.2.1.2.1 | exact Ne.symm q.2.1.2.1 | exact q.2.1.2.2 | exact Ne.symm q.2.1.2.2 | exact q.2.2.1.1 | exact Ne.symm q.2.2.1.1 | exact q.2.2.1.2.1 | exact Ne.symm q.2.2.1.2.1 | exact q.2.2.1.2.2 | exact Ne.symm q.2.2.1.2.2 | exact q.2.2.2.1 | exact Ne.symm q.2.2.2.1 | exact q.2.2.2.2.1 | exact Ne.symm q.2.2.2.2.1 | exact q.2.2.2.2.2 | exact Ne.symm q.2.2.2.2.2))
  k_with "MY Ed1" => (refine' enterRD ?k1 ?k2 ?k3 ?k4 ?k5 ?kA ?kF ?kK ?k6 ?k7 ?k8 ?k9 ?kB ?kD ?_ ?c2 ?c3 ?c4; (case kA => exact rfl); (case kF => exact rfl); (case kK => assumption); (case k1 => k_asm); (case k2 => k_asm); (case k3 => k_asm); (case k4 => k_asm); (case k5 => k_asm); (case k6 => k_is); (case k7 => k_is); (case k8 => ktr_room); (case k9 => exact BindsTo.of_eq rfl); (case kB => exact rfl); (case kD => decide +kernel); (case c2 => exact rfl); (case c3 => exact rfl); (case c4 => exact rfl); k_whole)
  obtain ⟨b1, b2⟩ := hx0
  obtain ⟨b3, b4⟩ := hy0
  obtain ⟨b5, b6⟩ := hx1
  obtain ⟨b7, b8⟩ := hy1
  have hz1 := fm1 (x1 - x0)
  have hz2 := fm1 (y1 - y0)
  unfold CtrO
  k_fill
  intro dp un gd cn cs ad ccd cl outer A₀ base h₀ L m s Q E B F X N T hk hd' hu _ hret
  refine wpAny_call ?_
  k_dflt (walk_at "MY enterRC")
  (rename ∀ (b : Addr) (o : Obj), s.heap.get? b = some o → _ → _ => gk')
  k_with_none
  k_with "MY ne" => (with_reducible (rename (_ ∧ _ ∧ _) ∧ _ ∧ _ ∧ _ => q; first | exact q.1.1 | exact Ne.symm q.1.1 | exact q.1.2.1 | exact Ne.symm q.1.2.1 | exact q.1.2.2 | exact Ne.symm q.1.2.2 | exact q.2.1.1 | exact Ne.symm q.2.1.1 | exact q.2.1.2.1 | exact Ne.symm q.2.1.2.1 | exact q.2.1.2.2 | exact Ne.symm q.2.1.2.2 | exact q.2.2.1.1 | exact Ne.symm q.2.2.1.1 | exact q.2.2.1.2.1 | exact Ne.symm q.2.2.1.2.1 | exact q.2.2.1.2.2 | exact Ne.symm q.2.2.1.2.2 | exact q.2.2.2.1 | exact Ne.symm q.2.2.2.1 | exact q.2.2.2.2.1 | exact Ne.symm q.2.2.2.2.1 | exact q.2.2.2.2.2 | exact Ne.symm q.2.2.2.2.2))
  k_with "MY Ed1" => (refine' enterRD ?k1 ?k2 ?k3 ?k4 ?k5 ?kA ?kF ?kK ?k6 ?k7 ?k8 ?k9 ?kB ?kD ?_ ?c2 ?c3 ?c4; (case kA => exact rfl); (case kF => exact rfl); (case kK => assumption); (case k1 => k_asm); (case k2 => k_asm); (case k3 => k_asm); (case k4 => k_asm); (case k5 => k_asm); (case k6 => k_is); (case k7 => k_is); (case k8 => ktr_room); (case k9 => exact BindsTo.of_eq rfl); (case kB => exact rfl); (case kD => decide +kernel); (case c2 => exact rfl); (case c3 => exact rfl); (case c4 => exact rfl); k_whole)
  k_with "compareOp Eq int int" => (with_reducible refine eq_intK (by with_reducible assumption) ?_)
  refine gen_post fun Qz Ez hQz _ => ?_
  k_steps
  all_goals (try (exfalso; first | (with_reducible rename (x1 - x0).fmod (1 + ((0 : Nat) : Int)) ≠ 0 => q); exact q hz1 | (with_reducible rename (y1 - y0).fmod (1 + ((0 : Nat) : Int)) ≠ 0 => q); exact q hz2))
  all_goals (
    refine hQz _ _ ?_
    k_steps
    refine' hret _ [_] _ _ (ed_obj ?e) ?F ?N ?kp ?o
    (case F => k_asm)
    (case o => (intro p' hp'; rw [List.mem_singleton.mp hp']; (with_reducible rename s.heap.objs.size ≤ _ => lz); exact Nat.le_trans lz (Nat.le_of_lt (Nat.lt_trans (Nat.lt_succ_self _) (by omega)))))
    (case kp => exact fun b o e nb => Fr.keep (by with_reducible assumption) b o (gk' b o e nb))
    (case N => exact news1 (by assumption) (List.Mem.head _) (by (intro p' hp'; repeat (first | exact hp' | refine List.Mem.tail _ ?_))))
    (case e => first
      | exact parts3 (by with_reducible assumption) (by with_reducible assumption) (by omega)
      | exact parts2 (.inl (by with_reducible assumption)) (by with_reducible assumption) (by with_reducible assumption) (by omega)
      | exact parts2 (.inr (by with_reducible assumption)) (by with_reducible assumption) (by with_reducible assumption) (by omega)
      | exact parts1 (.inl (by with_reducible assumption)) (.inl (by with_reducible assumption)) (by omega)
      | exact parts1 (.inl (by with_reducible assumption)) (.inr (by with_reducible assumption)) (by omega)
      | exact parts1 (.inr (by with_reducible assumption)) (.inl (by with_reducible assumption)) (by omega)
      | exact parts1 (.inr (by with_reducible assumption)) (.inr (by with_reducible assumption)) (by omega)))
end Mine
namespace Mine
local macro_rules | `(tactic| walk_at "storeName") => `(tactic| dsimp only)
local macro_rules | `(tactic| walk_at "exec AugAssign") => `(tactic| dsimp only)
theorem nrm1' {m : Str → Option Value} {x : Str} {a : Value} (hx : m x = some a) : m = fun q => if q = x then some a else m q := by
  funext q
  by_cases h1 : q = x
  · subst h1; simp [hx]
  · simp [h1]
structure WgMap (m : Str → Option Value) (a2 a3 : Addr) (ar st ah me tu : Int) : Prop where
  u : m (Str.ofString "u") = some (.ref a2)
  w : m (Str.ofString "w") = some (.ref a3)
  ar : ∃ t, m (Str.ofString "area") = some (.int ar t)
  st : ∃ t, m (Str.ofString "start") = some (.int st t)
  ah : ∃ t, m (Str.ofString "ahead") = some (.int ah t)
  me : ∃ t, m (Str.ofString "mesh") = some (.int me t)
  tu : ∃ t, m (Str.ofString "turned") = some (.int tu t)
noncomputable def WgJ (g : Heap) (L : Addr) (s : Shared) (args : List (Addr × Obj)) (a2 a3 : Addr) (ar st ah me tu : Int) (s' : Shared) : Prop := ∃ h2 tk m', s' = { s with heap := h2, toks := tk } ∧ Fr g L h2 m' ∧ News g L h2 args ∧ WgMap m' a2 a3 ar st ah me tu
theorem wgJ_in {g : Heap} {L : Addr} {s : Shared} {args : List (Addr × Obj)} {a2 a3 : Addr} {ar st ah me tu : Int} {h2 : Heap} {tk : Nat} {m' : Str → Option Value} {l : List (Addr × Obj)} (F : Fr g L h2 m') (N : News g L h2 l) (hs : ∀ p ∈ args, p ∈ l) (hm : WgMap m' a2 a3 ar st ah me tu) :
    CutPost (WgJ g L s args a2 a3 ar st ah me tu) .next { s with heap := h2, toks := tk } := ⟨rfl, h2, tk, m', rfl, F, fun p hp => N p (hs p hp), hm⟩
theorem rangeSize_upN (a b : Int) : Builtin.Range.rangeSize a b 1 = ((b - a).toNat : Int) := by
  unfold Builtin.Range.rangeSize
  simp
  omega
theorem small_upN {a b : Int} (ha : -(2 ^ 62) ≤ a) (ha' : a < 2 ^ 62) (hb : -(2 ^ 62) ≤ b) (hb' : b < 2 ^ 62) : Builtin.Range.small a b 1 = true := by
  unfold Builtin.Range.small
  rw [rangeSize_upN]
  simp [Builtin.Range.rangeFitsLong]
  omega
local macro_rules | `(tactic| k_asm) => `(tactic| k_extra "MY asm")
local macro_rules | `(tactic| walk_at "call ref") => `(tactic| (k_extra "MY Wg1"; k_extra "MY Wg61"))
local macro_rules | `(tactic| walk_at "call ref") => `(tactic| (k_extra "MY Wg2"; k_extra "MY Wg62"))
noncomputable def wgY (u0 u1 w0 w1 st ah x : Int) (p : Int × Int) (y : Int) : Int × Int :=
  if 0 ≤ x * w1 - y * w0 ∧ 0 ≤ u0 * y - u1 * x ∧ x * w1 - y * w0 < u0 * w1 - u1 * w0 ∧ u0 * y - u1 * x < u0 * w1 - u1 * w0 then (p.1 + 2 ^ (st + x + 4 * y).toNat, p.2 + 2 ^ (st + ah - x - 4 * y).toNat) else p
noncomputable def wgLo (a b : Int) : Int := (if a < 0 then a else 0) + (if b < 0 then b else 0)
noncomputable def wgHi (a b : Int) : Int := (if a > 0 then a else 0) + (if b > 0 then b else 0) + 1
noncomputable def wgN (a b : Int) : Nat := (wgHi a b - wgLo a b).toNat
noncomputable def wgX (u0 u1 w0 w1 st ah : Int) (p : Int × Int) (x : Int) : Int × Int := (rangeKs (wgLo u1 w1) (wgN u1 w1)).foldl (wgY u0 u1 w0 w1 st ah x) p
theorem wg_bd {a b : Int} (h3 : -3 ≤ a ∧ a ≤ 3) (h4 : -3 ≤ b ∧ b ≤ 3) : -6 ≤ wgLo a b ∧ wgLo a b ≤ 0 ∧ 1 ≤ wgHi a b ∧ wgHi a b ≤ 7 := by
  unfold wgLo wgHi
  (repeat' split) <;> omega
theorem wg_mem {a b k : Int} (h3 : -3 ≤ a ∧ a ≤ 3) (h4 : -3 ≤ b ∧ b ≤ 3) (hk : k ∈ rangeKs (wgLo a b) (wgN a b)) : -6 ≤ k ∧ k ≤ 6 ∧ -6 ≤ a + b - k ∧ a + b - k ≤ 6 := by
  have h := wg_bd h3 h4
  have m := mem_rangeKs hk
  have e : wgLo a b + wgHi a b = a + b + 1 := by
    unfold wgLo wgHi
    (repeat' split) <;> omega
  unfold wgN at m
  omega
noncomputable def wgS (p : Int × Int) (s : Int) : Int × Int := if 0 < s then (-p.1, -p.2) else (p.1 * 2 ^ (-s).toNat, p.2 * 2 ^ (-s).toNat)
theorem wgS_pos {p : Int × Int} {s : Int} (h : 0 < s) : wgS p s = (-p.1, -p.2) := if_pos h
theorem wgS_neg {p : Int × Int} {s : Int} (h : ¬ 0 < s) : wgS p s = (p.1 * 2 ^ (-s).toNat, p.2 * 2 ^ (-s).toNat) := if_neg h
noncomputable def wgF (cx cy u0 u1 w0 w1 : Int) : Int × Int :=
  wgS (wgS ((rangeKs (wgLo u0 w0) (wgN u0 w0)).foldl (wgX u0 u1 w0 w1 (32 + cx + 4 * cy) (u0 + w0 + 4 * (u1 + w1))) (0, 0)) (u0 + 4 * u1)) (w0 + 4 * w1)
abbrev PrRes (p : Int × Int) (v : Value) (tl : List (Addr × Obj)) : Prop := ∃ D a b t u, p = (a, b) ∧ v = .ref D ∧ tl = [(D, tupOf [.int a t, .int b u])]
theorem pow_small {n : Nat} (h : n ≤ 15) : Builtin.Int.intBits (2 ^ n) ≤ 64 := by
  have key : ∀ k : Fin 16, Builtin.Int.intBits (2 ^ k.val) ≤ 64 := by decide +kernel
  exact key ⟨n, by omega⟩
theorem wg_end {g : Heap} {L : Addr} {Rl : (Str → Option Value) → List (Addr × Obj) → Prop} {m' : Str → Option Value} {own As : List (Addr × Obj)} {s₁ : Shared} {h : Heap} {tk : Nat} (F : Fr g L h m') (N : News g L h (As ++ own)) (hj : Rl m' As) : InvEndN g L Rl own (As.map (·.1)) s₁ { s₁ with heap := h, toks := tk } :=
  InvEndN.intro F N hj rfl (fun p hp => List.mem_append_left _ hp) (fun p hp => List.mem_append_right _ hp)
theorem wgY_yes {u0 u1 w0 w1 st ah x y me tu : Int} (h1 : 256 ≤ 256 + (x * w1 - y * w0)) (h2 : 256 ≤ 256 + (u0 * y - u1 * x)) (h3 : 256 + (x * w1 - y * w0) - (u0 * w1 - u1 * w0) < 256) (h4 : 256 + (u0 * y - u1 * x) - (u0 * w1 - u1 * w0) < 256) :
    wgY u0 u1 w0 w1 st ah x (me, tu) y = (me + 2 ^ (st + x + 4 * y).toNat, tu + 2 ^ (st + ah - x - 4 * y).toNat) := by
  unfold wgY
  exact if_pos ⟨by omega, by omega, by omega, by omega⟩
theorem wgY_no {u0 u1 w0 w1 st ah x y me tu : Int} (h : ¬ (256 ≤ 256 + (x * w1 - y * w0)) ∨ ¬ (256 ≤ 256 + (u0 * y - u1 * x)) ∨ ¬ (256 + (x * w1 - y * w0) - (u0 * w1 - u1 * w0) < 256) ∨ ¬ (256 + (u0 * y - u1 * x) - (u0 * w1 - u1 * w0) < 256)) :
    wgY u0 u1 w0 w1 st ah x (me, tu) y = (me, tu) := by
  unfold wgY
  exact if_neg (fun q => by omega)
local macro_rules | `(tactic| walk_at "MY enterR") => `(tactic| (k_extra "MY Wg3"; intro g' L' h' FG' F' N' B' X' T' gk'; (try dsimp only); (try k_lift B'); (try k_fold)))
local macro_rules | `(tactic| walk_at "MY wgmap") => `(tactic| k_extra "MY Wg31")
set_option maxHeartbeats 8000000 in
theorem c_wedge (w : World) (mean : ExcName → Option Value) (mg mb : Str → Option Value) (a1 a2 a3 : Addr) (cx cy u0 u1 w0 w1 : Int) (t0 t1 t2 t3 t4 t5 : Tok) (h1 : 0 ≤ cx ∧ cx ≤ 3) (h2 : 0 ≤ cy ∧ cy ≤ 3) (h3 : -3 ≤ u0 ∧ u0 ≤ 3) (h4 : -3 ≤ u1 ∧ u1 ≤ 3) (h5 : -3 ≤ w0 ∧ w0 ≤ 3) (h6 : -3 ≤ w1 ∧ w1 ≤ 3) :
   CtrN w mean mg mb (fun _ => True) 114 3 [(a1, spotOf cx cy t0 t1), (a2, spotOf u0 u1 t2 t3), (a3, spotOf w0 w1 t4 t5)] [.ref a1, .ref a2, .ref a3] (PrRes (wgF cx cy u0 u1 w0 w1)) := by
  w_top off
  k_with_none
  k_with "MY Wg61" => (intro v' tl' h' tk' hres' F' N' ho'; (have hv' := hres'.2); (have htl' := hres'.1); subst hv' htl'; clear hres' ho'; (simp only [List.nil_append] at N'); (try dsimp only); (try k_fold))
  k_with "MY Wg62" => (intro v' tl' h' tk' hres' F' N' ho'; (have hv' := hres'.2); (have htl' := hres'.1); subst hv' htl'; clear hres' ho'; (simp only [List.nil_append] at N'); (try dsimp only); (try k_fold))
  k_with "MY asm" => (first | with_reducible assumption | assumption | exact nTail (by assumption) | exact nTail (nTail (by assumption)))
  k_with "MY Wg31" => (exact ⟨by with_unfolding_all rfl, by with_unfolding_all rfl, ⟨_, by with_unfolding_all rfl⟩, ⟨_, by with_unfolding_all rfl⟩, ⟨_, by with_unfolding_all rfl⟩, ⟨_, by with_unfolding_all rfl⟩, ⟨_, by with_unfolding_all rfl⟩⟩)
  k_with "MY Wg1" => (k_here; k_dflt (refine' (c_nont _ _ _ _ _ _ _) _ _ _ _ _ _ _ _ _ _ _ _ _ _ _ _ _ ?k1 ?k2 ?k3 ?k4 ?k5 ?kK ?kd ?ku ?_; (case k4 => k_asm); (case k1 => k_asm); (case k2 => k_asm); (case k3 => k_asm); (case k5 => k_asm); (case kK => first | exact rfl | assumption); (case kd => ktr_room); (case ku => ktr_units)))
  k_with "MY Wg2" => (k_here; k_dflt (refine' (c_term _ _ _ _ _ _ _) _ _ _ _ _ _ _ _ _ _ _ _ _ _ _ _ _ ?k1 ?k2 ?k3 ?k4 ?k5 ?kK ?kd ?ku ?_; (case k4 => k_asm); (case k1 => k_asm); (case k2 => k_asm); (case k3 => k_asm); (case k5 => k_asm); (case kK => first | exact rfl | assumption); (case kd => ktr_room); (case ku => ktr_units)))
  k_with "MY Wg3" => (refine' enterR ?k1 ?k2 ?k3 ?k4 ?k5 ?kA ?kF ?kK ?k6 ?k7 ?k8 ?k9 ?kB ?_ ?c2 ?c3 ?c4 ?c5; (case kA => exact rfl); (case kF => exact rfl); (case kK => assumption); (case k1 => k_asm); (case k2 => k_asm); (case k3 => k_asm); (case k4 => k_asm); (case k5 => k_asm); (case k6 => k_is); (case k7 => k_is); (case k8 => ktr_room); (case k9 => exact BindsTo.of_eq rfl); (case c5 => decide); (case kB => exact locs rfl); (case c2 => exact rfl); (case c3 => exact rfl); (case c4 => exact rfl); k_whole)
  obtain ⟨b1, b2⟩ := h1
  obtain ⟨b3, b4⟩ := h2
  obtain ⟨b5, b6⟩ := h3
  obtain ⟨b7, b8⟩ := h4
  obtain ⟨b9, b10⟩ := h5
  obtain ⟨b11, b12⟩ := h6
  unfold CtrN
  k_fill
  intro dp un gd cn cs ad ccd cl outer A₀ base h₀ L m s Q E B F X N T hk hd' hu _ hret
  refine wpAny_call ?_
  k_dflt (walk_at "MY enterR")
  k_with_none
  k_with "MY Wg61" => (intro v' tl' h' tk' hres' F' N' ho'; (have hv' := hres'.2); (have htl' := hres'.1); subst hv' htl'; clear hres' ho'; (simp only [List.nil_append] at N'); (try dsimp only); (try k_fold))
  k_with "MY Wg62" => (intro v' tl' h' tk' hres' F' N' ho'; (have hv' := hres'.2); (have htl' := hres'.1); subst hv' htl'; clear hres' ho'; (simp only [List.nil_append] at N'); (try dsimp only); (try k_fold))
  k_with "MY asm" => (first | with_reducible assumption | assumption | exact nTail (by assumption) | exact nTail (nTail (by assumption)))
  k_with "MY Wg31" => (exact ⟨by with_unfolding_all rfl, by with_unfolding_all rfl, ⟨_, by with_unfolding_all rfl⟩, ⟨_, by with_unfolding_all rfl⟩, ⟨_, by with_unfolding_all rfl⟩, ⟨_, by with_unfolding_all rfl⟩, ⟨_, by with_unfolding_all rfl⟩⟩)
  k_with "MY Wg1" => (k_here; k_dflt (refine' (c_nont _ _ _ _ _ _ _) _ _ _ _ _ _ _ _ _ _ _ _ _ _ _ _ _ ?k1 ?k2 ?k3 ?k4 ?k5 ?kK ?kd ?ku ?_; (case k4 => k_asm); (case k1 => k_asm); (case k2 => k_asm); (case k3 => k_asm); (case k5 => k_asm); (case kK => first | exact rfl | assumption); (case kd => ktr_room); (case ku => ktr_units)))
  k_with "MY Wg2" => (k_here; k_dflt (refine' (c_term _ _ _ _ _ _ _) _ _ _ _ _ _ _ _ _ _ _ _ _ _ _ _ _ ?k1 ?k2 ?k3 ?k4 ?k5 ?kK ?kd ?ku ?_; (case k4 => k_asm); (case k1 => k_asm); (case k2 => k_asm); (case k3 => k_asm); (case k5 => k_asm); (case kK => first | exact rfl | assumption); (case kd => ktr_room); (case ku => ktr_units)))
  k_with "MY Wg3" => (refine' enterR ?k1 ?k2 ?k3 ?k4 ?k5 ?kA ?kF ?kK ?k6 ?k7 ?k8 ?k9 ?kB ?_ ?c2 ?c3 ?c4 ?c5; (case kA => exact rfl); (case kF => exact rfl); (case kK => assumption); (case k1 => k_asm); (case k2 => k_asm); (case k3 => k_asm); (case k4 => k_asm); (case k5 => k_asm); (case k6 => k_is); (case k7 => k_is); (case k8 => ktr_room); (case k9 => exact BindsTo.of_eq rfl); (case c5 => decide); (case kB => exact locs rfl); (case c2 => exact rfl); (case c3 => exact rfl); (case c4 => exact rfl); k_whole)
  rename_i g' L' h' FG' F' N' B' X' T' gk'
  have z1 : Builtin.Int.intBits (2 ^ (-(u0 + 4 * u1)).toNat) ≤ 64 := pow_small (by omega)
  have z2 : Builtin.Int.intBits (2 ^ (-(w0 + 4 * w1)).toNat) ≤ 64 := pow_small (by omega)
  refine execs_cut (pre := [_, _, _, _, _]) (WgJ g' L' s [(a1, spotOf cx cy t0 t1), (a2, spotOf u0 u1 t2 t3), (a3, spotOf w0 w1 t4 t5)] a2 a3 (u0 * w1 - u1 * w0) (32 + cx + 4 * cy) (u0 + w0 + 4 * (u1 + w1)) 0 0) ?_ ?_
  · refine gen_post fun Qz Ez hQz _ => ?_
    k_steps
    refine hQz _ _ ?_
    refine' wgJ_in ?F ?N (fun _ h => h) ⟨?e1, ?e2, ⟨_, ?e3⟩, ⟨_, ?e4⟩, ⟨_, ?e5⟩, ⟨_, ?e6⟩, ⟨_, ?e7⟩⟩
    (case F => k_asm)
    (case N => k_asm)
    (case e1 => with_unfolding_all rfl)
    (case e2 => with_unfolding_all rfl)
    (case e3 => with_unfolding_all rfl)
    (case e4 => with_unfolding_all rfl)
    (case e5 => with_unfolding_all rfl)
    (case e6 => with_unfolding_all rfl)
    (case e7 => with_unfolding_all rfl)
  · rintro s' ⟨h2, tk, m', rfl, F2, N2, ⟨q1, q2, ⟨y3, q3⟩, ⟨y4, q4⟩, ⟨y5, q5⟩, ⟨y6, q6⟩, ⟨y7, q7⟩⟩⟩
    rw [nrm1' q1, nrm1' q2, nrm1' q3, nrm1' q4, nrm1' q5, nrm1' q6, nrm1' q7] at F2
    clear q1 q2 q3 q4 q5 q6 q7
    k_with "pyIter ref" => (refine Halt.out ?_)
    k_steps
    unfold Halt
    have bx := wg_bd (a := u0) (b := w0) ⟨b5, b6⟩ ⟨b9, b10⟩
    (rename IsRange _ _ _ _ _ _ _ _ => hr)
    change IsRange _ _ (wgLo u0 w0) (wgHi u0 w0) 1 _ _ _ at hr
    refine iter_rangeS (σ := Int × Int) (n := wgN u0 w0) (a₀ := wgLo u0 w0) (b₀ := wgHi u0 w0) (fun st m nx => nx = [(a1, spotOf cx cy t0 t1), (a2, spotOf u0 u1 t2 t3), (a3, spotOf w0 w1 t4 t5)] ∧ WgMap m a2 a3 (u0 * w1 - u1 * w0) (32 + cx + 4 * cy) (u0 + w0 + 4 * (u1 + w1)) st.1 st.2) (wgX u0 u1 w0 w1 (32 + cx + 4 * cy) (u0 + w0 + 4 * (u1 + w1))) (0, 0) (by rfl) hr (small_upN (by omega) (by omega) (by omega) (by omega)) (rangeSize_upN _ _) (by k_asm) (by k_asm) ⟨rfl, ⟨by with_unfolding_all rfl, by with_unfolding_all rfl, ⟨_, by with_unfolding_all rfl⟩, ⟨_, by with_unfolding_all rfl⟩, ⟨_, by with_unfolding_all rfl⟩, ⟨_, by with_unfolding_all rfl⟩, ⟨_, by with_unfolding_all rfl⟩⟩⟩ ?_ ?_
    · rintro k t ⟨me, tu⟩ m₁ nx h tk own hk hoff ⟨rfl, q1, q2, ⟨y3, q3⟩, ⟨y4, q4⟩, ⟨y5, q5⟩, ⟨y6, q6⟩, ⟨y7, q7⟩⟩ F₁ N₁
      change Fr g' L' h _ at F₁
      change News g' L' h _ at N₁
      simp only [List.cons_append, List.nil_append] at N₁
      rw [nrm1' q1, nrm1' q2, nrm1' q3, nrm1' q4, nrm1' q5, nrm1' q6, nrm1' q7] at F₁
      clear q1 q2 q3 q4 q5 q6 q7 hr
      obtain ⟨kx1, kx2, kx3, kx4⟩ := wg_mem ⟨b5, b6⟩ ⟨b9, b10⟩ hk
      have bz := wg_bd (a := u1) (b := w1) ⟨b7, b8⟩ ⟨b11, b12⟩
      k_steps
      unfold Halt
      (rename IsRange _ _ _ _ _ _ _ _ => hr)
      change IsRange _ _ (wgLo u1 w1) (wgHi u1 w1) 1 _ _ _ at hr
      refine iter_rangeS (σ := Int × Int) (n := wgN u1 w1) (a₀ := wgLo u1 w1) (b₀ := wgHi u1 w1) (fun st m nx => nx = (a1, spotOf cx cy t0 t1) :: (a2, spotOf u0 u1 t2 t3) :: (a3, spotOf w0 w1 t4 t5) :: own ∧ WgMap m a2 a3 (u0 * w1 - u1 * w0) (32 + cx + 4 * cy) (u0 + w0 + 4 * (u1 + w1)) st.1 st.2 ∧ ∃ t, m (Str.ofString "x") = some (.int k t)) (wgY u0 u1 w0 w1 (32 + cx + 4 * cy) (u0 + w0 + 4 * (u1 + w1)) k) (me, tu) (by rfl) hr (small_upN (by omega) (by omega) (by omega) (by omega)) (rangeSize_upN _ _) (by k_asm) (by k_asm) ⟨rfl, ⟨by with_unfolding_all rfl, by with_unfolding_all rfl, ⟨_, by with_unfolding_all rfl⟩, ⟨_, by with_unfolding_all rfl⟩, ⟨_, by with_unfolding_all rfl⟩, ⟨_, by with_unfolding_all rfl⟩, ⟨_, by with_unfolding_all rfl⟩⟩, ⟨_, by with_unfolding_all rfl⟩⟩ ?_ ?_
      · rintro j tj ⟨me2, tu2⟩ m₂ nx h2 tk2 own2 hj hoff2 ⟨rfl, ⟨q1, q2, ⟨y3, q3⟩, ⟨y4, q4⟩, ⟨y5, q5⟩, ⟨y6, q6⟩, ⟨y7, q7⟩⟩, ⟨y8, q8⟩⟩ F₂ N₂
        change Fr g' L' h2 _ at F₂
        change News g' L' h2 _ at N₂
        simp only [List.cons_append, List.nil_append] at N₂
        rw [nrm1' q1, nrm1' q2, nrm1' q3, nrm1' q4, nrm1' q5, nrm1' q6, nrm1' q7, nrm1' q8] at F₂
        clear q1 q2 q3 q4 q5 q6 q7 q8 hr
        obtain ⟨jx1, jx2, jx3, jx4⟩ := wg_mem ⟨b7, b8⟩ ⟨b11, b12⟩ hj
        refine gen_post fun Qz Ez hQz _ => ?_
        k_steps
        all_goals (refine hQz _ _ ?_)
        all_goals k_steps
        · rw [wgY_yes (by with_reducible assumption) (by with_reducible assumption) (by with_reducible assumption) (by with_reducible assumption)]
          refine' wg_end (As := (a1, spotOf cx cy t0 t1) :: (a2, spotOf u0 u1 t2 t3) :: (a3, spotOf w0 w1 t4 t5) :: own) ?F ?N ?R
          (case F => k_asm)
          (case N => assumption)
          (case R => exact ⟨rfl, (by walk_at "MY wgmap"), ⟨_, by with_unfolding_all rfl⟩⟩)
        all_goals (
          rw [wgY_no (by first | exact .inl (by with_reducible assumption) | exact .inr (.inl (by with_reducible assumption)) | exact .inr (.inr (.inl (by with_reducible assumption))) | exact .inr (.inr (.inr (by with_reducible assumption))))]
          refine' wg_end (As := (a1, spotOf cx cy t0 t1) :: (a2, spotOf u0 u1 t2 t3) :: (a3, spotOf w0 w1 t4 t5) :: own) ?G ?M ?R2
          (case G => k_asm)
          (case M => assumption)
          (case R2 => exact ⟨rfl, (by walk_at "MY wgmap"), ⟨_, by with_unfolding_all rfl⟩⟩))
      · rintro m₂ nx h2 tk2 ⟨rfl, hm, _⟩ F₂ N₂
        change Fr g' L' h2 _ at F₂
        change News g' L' h2 _ at N₂
        k_steps
        exact wg_end (As := [(a1, spotOf cx cy t0 t1), (a2, spotOf u0 u1 t2 t3), (a3, spotOf w0 w1 t4 t5)]) F₂ N₂ ⟨rfl, hm⟩
    · rintro m₁ nx h2 tk2 ⟨rfl, q1, q2, ⟨y3, q3⟩, ⟨y4, q4⟩, ⟨y5, q5⟩, ⟨y6, q6⟩, ⟨y7, q7⟩⟩ F₁ N₁
      change Fr g' L' h2 _ at F₁
      change News g' L' h2 _ at N₁
      rw [nrm1' q1, nrm1' q2, nrm1' q3, nrm1' q4, nrm1' q5, nrm1' q6, nrm1' q7] at F₁
      clear q1 q2 q3 q4 q5 q6 q7 hr
      k_with_none
      k_with "MY Wg61" => (intro v' tl' h' tk' hres' F' N' ho'; (have hv' := hres'.2); (have htl' := hres'.1); subst hv' htl'; clear hres' ho'; (simp only [List.nil_append] at N'); (try dsimp only); (try k_fold))
      k_with "MY Wg62" => (intro v' tl' h' tk' hres' F' N' ho'; (have hv' := hres'.2); (have htl' := hres'.1); subst hv' htl'; clear hres' ho'; (simp only [List.nil_append] at N'); (try dsimp only); (try k_fold))
      k_with "MY asm" => (first | with_reducible assumption | assumption | exact nTail (by assumption) | exact nTail (nTail (by assumption)))
      k_with "MY Wg31" => (exact ⟨by with_unfolding_all rfl, by with_unfolding_all rfl, ⟨_, by with_unfolding_all rfl⟩, ⟨_, by with_unfolding_all rfl⟩, ⟨_, by with_unfolding_all rfl⟩, ⟨_, by with_unfolding_all rfl⟩, ⟨_, by with_unfolding_all rfl⟩⟩)
      k_with "MY Wg1" => (k_here; k_dflt (refine' (c_nont _ _ _ _ _ _ _) _ _ _ _ _ _ _ _ _ _ _ _ _ _ _ _ _ ?k1 ?k2 ?k3 ?k4 ?k5 ?kK ?kd ?ku ?_; (case k4 => k_asm); (case k1 => k_asm); (case k2 => k_asm); (case k3 => k_asm); (case k5 => k_asm); (case kK => first | exact rfl | assumption); (case kd => ktr_room); (case ku => ktr_units)))
      k_with "MY Wg2" => (k_here; k_dflt (refine' (c_term _ _ _ _ _ _ _) _ _ _ _ _ _ _ _ _ _ _ _ _ _ _ _ _ ?k1 ?k2 ?k3 ?k4 ?k5 ?kK ?kd ?ku ?_; (case k4 => k_asm); (case k1 => k_asm); (case k2 => k_asm); (case k3 => k_asm); (case k5 => k_asm); (case kK => first | exact rfl | assumption); (case kd => ktr_room); (case ku => ktr_units)))
      k_with "MY Wg3" => (refine' enterR ?k1 ?k2 ?k3 ?k4 ?k5 ?kA ?kF ?kK ?k6 ?k7 ?k8 ?k9 ?kB ?_ ?c2 ?c3 ?c4 ?c5; (case kA => exact rfl); (case kF => exact rfl); (case kK => assumption); (case k1 => k_asm); (case k2 => k_asm); (case k3 => k_asm); (case k4 => k_asm); (case k5 => k_asm); (case k6 => k_is); (case k7 => k_is); (case k8 => ktr_room); (case k9 => exact BindsTo.of_eq rfl); (case c5 => decide); (case kB => exact locs rfl); (case c2 => exact rfl); (case c3 => exact rfl); (case c4 => exact rfl); k_whole)
      k_steps
      all_goals (
        refine' hret _ [_] _ _ ⟨_, _, _, _, _, ?e, rfl, rfl⟩ ?F ?N ?kp
        (case N => exact news1 (by assumption) (List.Mem.head _) (by (intro p' hp'; repeat (first | exact hp' | refine List.Mem.tail _ ?_))))
        (case F => k_asm)
        (case kp => exact fun b o e nb => Fr.keep (by with_reducible assumption) b o (gk' b o e nb))
        (case e => first
          | exact (congrArg (fun q => wgS q _) (wgS_pos (by with_reducible assumption))).trans (wgS_pos (by with_reducible assumption))
          | exact (congrArg (fun q => wgS q _) (wgS_pos (by with_reducible assumption))).trans (wgS_neg (by with_reducible assumption))
          | exact (congrArg (fun q => wgS q _) (wgS_neg (by with_reducible assumption))).trans (wgS_pos (by with_reducible assumption))
          | exact (congrArg (fun q => wgS q _) (wgS_neg (by with_reducible assumption))).trans (wgS_neg (by with_reducible assumption))))
end Mine
namespace Mine
open PySem.Flt
noncomputable def fq (n : Int) : UInt64 := Float64.ofFrac (decide (n < 0) != decide ((16 : Int) < 0)) n.natAbs (Int.natAbs 16)
noncomputable def fLe (a b : UInt64) : Bool := Float64.cmp a b == some Ordering.lt || Float64.cmp a b == some Ordering.eq
noncomputable def fLt (a b : UInt64) : Bool := Float64.cmp a b == some Ordering.lt
noncomputable def lightF (x : UInt64) : UInt64 := Float64.add (Float64.mul 4625196817309499392 x) 4602678819172646912
noncomputable def litOk (x : UInt64) (n : Int) : Bool := Float64.isFinite (lightF x) && toInt Float64.truncOf (lightF x) == n
noncomputable def frc {α : Type} (x : UInt64) (k : UInt64 → α) : α := Nat.rec (motive := fun _ => α) (k 0) (fun n _ => k (UInt64.ofNat (n + 1))) x.toNat
theorem frc_eq {α : Type} (x : UInt64) (k : UInt64 → α) : frc x k = k x := by
  unfold frc
  cases h : x.toNat with
  | zero =>
    show k 0 = k x
    congr 1
    exact UInt64.toNat_inj.mp (h ▸ rfl)
  | succ n =>
    show k (UInt64.ofNat (n + 1)) = k x
    rw [← h, UInt64.ofNat_toNat]
noncomputable def hsvS {α : Type} (r g b : UInt64) (k : UInt64 → UInt64 → UInt64 → α) : α :=
  frc (mx3 r g b) fun mx => frc (mn3 r g b) fun mn =>
  match (Float64.cmp mn mx == some Ordering.eq) with
  | true => k 0 0 mx
  | false =>
    frc (Float64.sub mx mn) fun d =>
    frc (Float64.div (Float64.sub mx r) d) fun rc =>
    frc (Float64.div (Float64.sub mx g) d) fun gc =>
    frc (Float64.div (Float64.sub mx b) d) fun bc =>
    frc (match (Float64.cmp r mx == some Ordering.eq) with
      | true => Float64.sub bc gc
      | false => match (Float64.cmp g mx == some Ordering.eq) with
        | true => Float64.sub (Float64.add 4611686018427387904 rc) bc
        | false => Float64.sub (Float64.add 4616189618054758400 gc) rc) fun h =>
    frc (Float64.div h 4618441417868443648) fun h6 =>
    frc (Float64.divmod h6 4607182418800017408).2 fun hh =>
    frc (Float64.div d mx) fun ss => k hh ss mx
theorem hsvS_eq {α : Type} (r g b : UInt64) (k : UInt64 → UInt64 → UInt64 → α) : hsvS r g b k = k (hsvF r g b).1 (hsvF r g b).2.1 (hsvF r g b).2.2 := by
  unfold hsvS hsvF
  simp only [frc_eq]
  cases (Float64.cmp (mn3 r g b) (mx3 r g b) == some Ordering.eq) <;> rfl
noncomputable def rgbS {α : Type} (fh fs fv : UInt64) (k : UInt64 → UInt64 → UInt64 → α) : α :=
  match (Float64.cmp fs 0 == some Ordering.eq) with
  | true => k fv fv fv
  | false =>
    frc (Float64.mul fh 4618441417868443648) fun z =>
    frc (Float64.sub z (Float64.ofInt (toInt Float64.truncOf z))) fun f =>
    frc (Float64.mul fv (Float64.sub 4607182418800017408 fs)) fun p =>
    frc (Float64.mul fv (Float64.sub 4607182418800017408 (Float64.mul fs f))) fun q =>
    frc (Float64.mul fv (Float64.sub 4607182418800017408 (Float64.mul fs (Float64.sub 4607182418800017408 f)))) fun t =>
    if (toInt Float64.truncOf z).fmod 6 = 0 then k fv t p else if (toInt Float64.truncOf z).fmod 6 = 1 then k q fv p else if (toInt Float64.truncOf z).fmod 6 = 2 then k p fv t
    else if (toInt Float64.truncOf z).fmod 6 = 3 then k p q fv else if (toInt Float64.truncOf z).fmod 6 = 4 then k t p fv else k fv p q
theorem rgbS_eq {α : Type} (r g b : UInt64) (k : UInt64 → UInt64 → UInt64 → α) : rgbS r g b k = k (rgbF r g b).1 (rgbF r g b).2.1 (rgbF r g b).2.2 := by
  unfold rgbS rgbF
  simp only [frc_eq]
  cases (Float64.cmp g 0 == some Ordering.eq)
  · dsimp only
    repeat' split
    all_goals rfl
  · rfl
noncomputable def litS (x : UInt64) (n : Int) : Bool := frc (lightF x) fun y => Float64.isFinite y && toInt Float64.truncOf y == n
theorem litS_eq (x : UInt64) (n : Int) : litS x n = litOk x n := frc_eq _ _
noncomputable def backOk (p : UInt64 × UInt64 × UInt64) (r g b : Int) : Bool := litOk p.1 r && litOk p.2.1 g && litOk p.2.2 b
noncomputable def hsvOk (h s v : UInt64) (r g b : Int) : Bool :=
    fLe s 4607182418800017408 && Float64.isFinite (Float64.mul h 4618441417868443648) && decide (-100 ≤ toInt Float64.truncOf (Float64.mul h 4618441417868443648)) && decide (toInt Float64.truncOf (Float64.mul h 4618441417868443648) ≤ 100)
      && backOk (rgbF h s v) r g b && (fLt s 4607182418800017408 == decide (0 < r ∧ 0 < g ∧ 0 < b))
noncomputable def hsvOkS (h s v : UInt64) (r g b : Int) : Bool :=
    fLe s 4607182418800017408 && frc (Float64.mul h 4618441417868443648) (fun z => Float64.isFinite z && decide (-100 ≤ toInt Float64.truncOf z) && decide (toInt Float64.truncOf z ≤ 100))
      && rgbS h s v (fun x y z => litS x r && litS y g && litS z b) && (fLt s 4607182418800017408 == decide (0 < r ∧ 0 < g ∧ 0 < b))
theorem hsvOkS_eq (h s v : UInt64) (r g b : Int) : hsvOkS h s v r g b = hsvOk h s v r g b := by
  unfold hsvOkS hsvOk backOk
  rw [frc_eq, rgbS_eq, litS_eq, litS_eq, litS_eq]
  simp only [Bool.and_assoc]
noncomputable def triS (r g b : Int) : Bool := frc (fq r) fun R => frc (fq g) fun G => frc (fq b) fun B => hsvS R G B fun h s v => hsvOkS h s v r g b
set_option maxHeartbeats 4000000 in
theorem tri_a : ∀ r g b : Fin 10, 0 < r.val + g.val + b.val → r.val + g.val + b.val ≤ 9 → triS (r.val : Int) (g.val : Int) (b.val : Int) = true := by decide +kernel

theorem triS_eq (r g b : Int) : triS r g b = hsvOk (hsvF (fq r) (fq g) (fq b)).1 (hsvF (fq r) (fq g) (fq b)).2.1 (hsvF (fq r) (fq g) (fq b)).2.2 r g b := by
  unfold triS
  rw [frc_eq, frc_eq, frc_eq, hsvS_eq, hsvOkS_eq]
theorem tri_pos {r g b : Int} (h1 : 0 ≤ r) (h2 : 0 ≤ g) (h3 : 0 ≤ b) (h4 : 0 < r + g + b) (h5 : r + g + b ≤ 9) : hsvOk (hsvF (fq r) (fq g) (fq b)).1 (hsvF (fq r) (fq g) (fq b)).2.1 (hsvF (fq r) (fq g) (fq b)).2.2 r g b = true := by
  rw [← triS_eq]
  have := tri_a ⟨r.toNat, by omega⟩ ⟨g.toNat, by omega⟩ ⟨b.toNat, by omega⟩ (by show 0 < r.toNat + g.toNat + b.toNat; omega) (by show r.toNat + g.toNat + b.toNat ≤ 9; omega)
  simp only [Int.toNat_of_nonneg h1, Int.toNat_of_nonneg h2, Int.toNat_of_nonneg h3] at this
  exact this
theorem cmp_a : ∀ a b : Fin 19, Float64.cmp (fq ((a.val : Int) - 9)) (fq ((b.val : Int) - 9)) = some (compare ((a.val : Int) - 9) ((b.val : Int) - 9)) := by decide +kernel
theorem fq_cmp {a b : Int} (h1 : -9 ≤ a ∧ a ≤ 9) (h2 : -9 ≤ b ∧ b ≤ 9) : Float64.cmp (fq a) (fq b) = some (compare a b) := by
  have := cmp_a ⟨(a + 9).toNat, by omega⟩ ⟨(b + 9).toNat, by omega⟩
  simp only [Int.toNat_of_nonneg (show 0 ≤ a + 9 by omega), Int.toNat_of_nonneg (show 0 ≤ b + 9 by omega), Int.add_sub_cancel] at this
  exact this
theorem cmpi_lt {a b : Int} (h : a < b) : compare a b = .lt := by
  show compareOfLessAndEq a b = _
  simp [compareOfLessAndEq, h]
theorem cmpi_gt {a b : Int} (h : b < a) : compare a b = .gt := by
  show compareOfLessAndEq a b = _
  simp [compareOfLessAndEq, show ¬ a < b by omega, show a ≠ b by omega]
theorem gt_fq {a b : Int} (h1 : -9 ≤ a ∧ a ≤ 9) (h2 : -9 ≤ b ∧ b ≤ 9) : gtB (fq b) (fq a) = decide (a < b) := by
  unfold gtB
  rw [fq_cmp h1 h2]
  rcases Int.lt_trichotomy a b with h | h | h
  · rw [show compare a b = .lt from cmpi_lt h]; simp [h]
  · subst h; simp
  · rw [show compare a b = .gt from cmpi_gt h]; simp; omega
theorem lt_fq {a b : Int} (h1 : -9 ≤ a ∧ a ≤ 9) (h2 : -9 ≤ b ∧ b ≤ 9) : ltB (fq b) (fq a) = decide (b < a) := by
  rw [← gt_fq h2 h1]
  rfl
theorem mx3_fq {r g b : Int} (h1 : -9 ≤ r ∧ r ≤ 9) (h2 : -9 ≤ g ∧ g ≤ 9) (h3 : -9 ≤ b ∧ b ≤ 9) : ∃ M, mx3 (fq r) (fq g) (fq b) = fq M ∧ r ≤ M ∧ g ≤ M ∧ b ≤ M ∧ M ≤ 9 := by
  unfold mx3
  simp only [gt_fq h1 h2, gt_fq h2 h3, gt_fq h1 h3, decide_eq_true_eq]
  (repeat' split)
  · exact ⟨b, rfl, by omega⟩
  · exact ⟨g, rfl, by omega⟩
  · exact ⟨b, rfl, by omega⟩
  · exact ⟨r, rfl, by omega⟩
theorem mn3_fq {r g b : Int} (h1 : -9 ≤ r ∧ r ≤ 9) (h2 : -9 ≤ g ∧ g ≤ 9) (h3 : -9 ≤ b ∧ b ≤ 9) : ∃ M, mn3 (fq r) (fq g) (fq b) = fq M ∧ M ≤ r ∧ M ≤ g ∧ M ≤ b ∧ -9 ≤ M := by
  unfold mn3
  simp only [lt_fq h1 h2, lt_fq h2 h3, lt_fq h1 h3, decide_eq_true_eq]
  (repeat' split)
  · exact ⟨b, rfl, by omega⟩
  · exact ⟨g, rfl, by omega⟩
  · exact ⟨b, rfl, by omega⟩
  · exact ⟨r, rfl, by omega⟩
theorem pair_a : ∀ a : Fin 9, ∀ b : Fin 19, Float64.isZero (fq ((a.val : Int) + 1)) = false ∧ ((b.val : Int) - 9 ≠ (a.val : Int) + 1 → Float64.isZero (Float64.sub (fq ((a.val : Int) + 1)) (fq ((b.val : Int) - 9))) = false) ∧
    ((b.val : Int) - 9 < 0 → fLe (Float64.div (Float64.sub (fq ((a.val : Int) + 1)) (fq ((b.val : Int) - 9))) (fq ((a.val : Int) + 1))) 4607182418800017408 = false) := by decide +kernel
theorem pair_b {M n : Int} (h1 : 1 ≤ M) (h2 : M ≤ 9) (h3 : -9 ≤ n) (h4 : n ≤ 9) : Float64.isZero (fq M) = false ∧ (n ≠ M → Float64.isZero (Float64.sub (fq M) (fq n)) = false) ∧ (n < 0 → fLe (Float64.div (Float64.sub (fq M) (fq n)) (fq M)) 4607182418800017408 = false) := by
  have := pair_a ⟨(M - 1).toNat, by omega⟩ ⟨(n + 9).toNat, by omega⟩
  simp only [Int.toNat_of_nonneg (show 0 ≤ M - 1 by omega), Int.toNat_of_nonneg (show 0 ≤ n + 9 by omega), Int.add_sub_cancel, Int.sub_add_cancel] at this
  exact this
theorem eq_fq {a b : Int} (h1 : -9 ≤ a ∧ a ≤ 9) (h2 : -9 ≤ b ∧ b ≤ 9) (h : a ≠ b) : (Float64.cmp (fq a) (fq b) == some Ordering.eq) = false := by
  rw [fq_cmp h1 h2]
  rcases Int.lt_trichotomy a b with h' | h' | h'
  · rw [show compare a b = .lt from cmpi_lt h']; rfl
  · exact absurd h' h
  · rw [show compare a b = .gt from cmpi_gt h']; rfl
noncomputable def HsvFacts (r g b : Int) (x y z : UInt64) : Prop := (0 ≤ r ∧ 0 ≤ g ∧ 0 ≤ b ∧ hsvOk x y z r g b = true) ∨ (¬ (0 ≤ r ∧ 0 ≤ g ∧ 0 ≤ b) ∧ fLe y 4607182418800017408 = false)
theorem hsv_facts {r g b : Int} (h1 : -9 ≤ r ∧ r ≤ 9) (h2 : -9 ≤ g ∧ g ≤ 9) (h3 : -9 ≤ b ∧ b ≤ 9) (h4 : 0 < r + g + b) (h5 : r + g + b ≤ 9) :
    Float64.isZero (mx3 (fq r) (fq g) (fq b)) = false ∧ ((Float64.cmp (mn3 (fq r) (fq g) (fq b)) (mx3 (fq r) (fq g) (fq b)) == some .eq) = false → Float64.isZero (Float64.sub (mx3 (fq r) (fq g) (fq b)) (mn3 (fq r) (fq g) (fq b))) = false) ∧
    HsvFacts r g b (hsvF (fq r) (fq g) (fq b)).1 (hsvF (fq r) (fq g) (fq b)).2.1 (hsvF (fq r) (fq g) (fq b)).2.2 := by
  obtain ⟨M, e1, m1, m2, m3, m4⟩ := mx3_fq h1 h2 h3
  obtain ⟨n, e2, n1, n2, n3, n4⟩ := mn3_fq h1 h2 h3
  obtain ⟨p1, p2, p3⟩ := pair_b (M := M) (n := n) (by omega) m4 n4 (by omega)
  refine ⟨e1 ▸ p1, ?_, ?_⟩
  · rw [e1, e2]
    intro h
    refine p2 (fun e => ?_)
    subst e
    rw [fq_cmp (by omega) (by omega)] at h
    simp at h
  · by_cases hq : 0 ≤ r ∧ 0 ≤ g ∧ 0 ≤ b
    · exact .inl ⟨hq.1, hq.2.1, hq.2.2, tri_pos hq.1 hq.2.1 hq.2.2 h4 h5⟩
    · refine .inr ⟨hq, ?_⟩
      have hn : n < 0 := by omega
      have e3 : (hsvF (fq r) (fq g) (fq b)).2.1 = Float64.div (Float64.sub (fq M) (fq n)) (fq M) := by
        unfold hsvF
        rw [e1, e2, eq_fq (by omega) (by omega) (by omega)]
      rw [e3]
      exact p3 hn
abbrev HsvRes (r g b : Int) (v : Value) (tl : List (Addr × Obj)) : Prop :=
  ∃ D x y z t1 t2 t3, v = .ref D ∧ tl = [(D, tupOf [.float x t1, .float y t2, .float z t3])] ∧ HsvFacts r g b x y z
theorem c_rgbq (w : World) (mean : ExcName → Option Value) (mg mb : Str → Option Value) (rest : List (Addr × Obj)) (r g b : Int) (tr tg tb : Tok) (h1 : -9 ≤ r ∧ r ≤ 9) (h2 : -9 ≤ g ∧ g ≤ 9) (h3 : -9 ≤ b ∧ b ≤ 9) (h4 : 0 < r + g + b) (h5 : r + g + b ≤ 9) :
   Ctr w mean mg mb 38 1 rest [.float (fq r) tr, .float (fq g) tg, .float (fq b) tb] (HsvRes r g b) := by
  obtain ⟨f1, f2, f3⟩ := hsv_facts h1 h2 h3 h4 h5
  have := c_rgb w mean mg mb rest (fq r) (fq g) (fq b) tr tg tb f1 f2
  intro dp un gd cn cs a ccd cl outer A₀ base h₀ L m s Q E B F X N T hk hd' hu hret
  refine this dp un gd cn cs a ccd cl outer A₀ base h₀ L m s Q E B F X N T hk hd' hu ?_
  rintro v tl h' tk' ⟨D, x, y, z, t1, t2, t3, e, hv, ht⟩
  refine hret v tl h' tk' ⟨D, x, y, z, t1, t2, t3, hv, ht, ?_⟩
  rw [e] at f3
  exact f3
noncomputable def lit (x : UInt64) (n : Int) : Prop := Float64.isFinite (Float64.add (Float64.mul 4625196817309499392 x) 4602678819172646912) = true ∧ toInt Float64.truncOf (Float64.add (Float64.mul 4625196817309499392 x) 4602678819172646912) = n
theorem litOk_lit {x : UInt64} {n : Int} (h : litOk x n = true) : lit x n := by
  unfold litOk lightF at h
  rw [Bool.and_eq_true, beq_iff_eq] at h
  exact h
abbrev BackRes (r g b : Int) (v : Value) (tl : List (Addr × Obj)) : Prop :=
  ∃ D x y z t1 t2 t3, v = .ref D ∧ tl = [(D, tupOf [.float x t1, .float y t2, .float z t3])] ∧ lit x r ∧ lit y g ∧ lit z b
theorem c_hsvq (w : World) (mean : ExcName → Option Value) (mg mb : Str → Option Value) (rest : List (Addr × Obj)) (x y z : UInt64) (r g b : Int) (tr tg tb : Tok) (hq : hsvOk x y z r g b = true) :
   Ctr w mean mg mb 45 1 rest [.float x tr, .float y tg, .float z tb] (BackRes r g b) := by
  unfold hsvOk backOk at hq
  simp only [Bool.and_eq_true, decide_eq_true_eq] at hq
  obtain ⟨⟨⟨⟨⟨_, q2⟩, q3⟩, q4⟩, ⟨q5, q6⟩, q7⟩, _⟩ := hq
  have := c_hsv w mean mg mb rest x y z tr tg tb q2 ⟨q3, q4⟩
  intro dp un gd cn cs a ccd cl outer A₀ base h₀ L m s Q E B F X N T hk hd' hu hret
  refine this dp un gd cn cs a ccd cl outer A₀ base h₀ L m s Q E B F X N T hk hd' hu ?_
  rintro v tl h' tk' ⟨D, x, y, z, t1, t2, t3, e, hv, ht⟩
  rw [e] at q5 q6 q7
  exact hret v tl h' tk' ⟨D, x, y, z, t1, t2, t3, hv, ht, litOk_lit q5, litOk_lit q6, litOk_lit q7⟩
theorem hsvOk_le {x y z : UInt64} {r g b : Int} (hq : hsvOk x y z r g b = true) : fLe y 4607182418800017408 = true ∧ (Float64.cmp y 4607182418800017408 == some Ordering.lt) = decide (0 < r ∧ 0 < g ∧ 0 < b) := by
  unfold hsvOk at hq
  simp only [Bool.and_eq_true, beq_iff_eq] at hq
  exact ⟨hq.1.1.1.1.1, hq.2⟩
theorem fin_nan {x : UInt64} (h : Float64.isFinite x = true) (h' : Float64.isNaN x = true) : False := by
  unfold Float64.isFinite at h
  unfold Float64.isNaN at h'
  revert h h'
  cases Float64.decode x <;> simp
theorem fin_inf {x : UInt64} (h : Float64.isFinite x = true) (h' : Float64.isInf x = true) : False := by
  unfold Float64.isFinite at h
  unfold Float64.isInf at h'
  revert h h'
  cases Float64.decode x <;> simp
section
variable {prog : Program} {w : World} {A : Around} {E : Value → Shared → Prop} {s : Shared} {Q : Value → Shared → Prop}
theorem le_known {a b : UInt64} {c : Bool} {t u : Tok} (hc : fLe a b = c) (h : Q (.bool c) s) : wpAny (model prog w) A (compareOp .LtE (.float a t) (.float b u)) Q E s := by
  subst hc
  exact AutoFloatOps.le_0 h
theorem int_known {x : UInt64} {n : Int} {t : Tok} (hA : A.handled = none) (hl : lit x n) (h : Q (.int n s.toks) { s with toks := s.toks + 1 }) : wpAny (model prog w) A (call (.type "int") [.float (Float64.add (Float64.mul 4625196817309499392 x) 4602678819172646912) t]) Q E s := by
  refine call_int_float3 hA (fun e => (fin_nan hl.1 e).elim) (fun e => (fin_inf hl.1 e).elim) fun _ => ?_
  rw [hl.2]
  exact h
theorem div16 {a : Int} {t u : Tok} (hA : A.handled = none) (h1 : -9 ≤ a) (h2 : a ≤ 9) (h : Q (.float (fq a) s.toks) { s with toks := s.toks + 1 }) : wpAny (model prog w) A (binaryOp .Div (.int a t) (.int 16 u)) Q E s := by
  refine div_ii_fits hA (by omega) (fun e => ?_) (fun _ _ => h)
  exact absurd e (by decide)
end
theorem crs_a : ∀ a b c d e f : Fin 4, -9 ≤ crs (a.val : Int) (b.val : Int) (c.val : Int) (d.val : Int) (e.val : Int) (f.val : Int) ∧ crs (a.val : Int) (b.val : Int) (c.val : Int) (d.val : Int) (e.val : Int) (f.val : Int) ≤ 9 := by decide +kernel
theorem crs_bd {a b c d e f : Int} (h1 : 0 ≤ a ∧ a ≤ 3) (h2 : 0 ≤ b ∧ b ≤ 3) (h3 : 0 ≤ c ∧ c ≤ 3) (h4 : 0 ≤ d ∧ d ≤ 3) (h5 : 0 ≤ e ∧ e ≤ 3) (h6 : 0 ≤ f ∧ f ≤ 3) : -9 ≤ crs a b c d e f ∧ crs a b c d e f ≤ 9 := by
  have := crs_a ⟨a.toNat, by omega⟩ ⟨b.toNat, by omega⟩ ⟨c.toNat, by omega⟩ ⟨d.toNat, by omega⟩ ⟨e.toNat, by omega⟩ ⟨f.toNat, by omega⟩
  simp only [Int.toNat_of_nonneg h1.1, Int.toNat_of_nonneg h2.1, Int.toNat_of_nonneg h3.1, Int.toNat_of_nonneg h4.1, Int.toNat_of_nonneg h5.1, Int.toNat_of_nonneg h6.1] at this
  exact this
theorem crs_sum (x0 y0 x1 y1 x2 y2 s t : Int) : crs x0 y0 x1 y1 x2 y2 - crs x1 y1 x2 y2 s t - crs x2 y2 x0 y0 s t = crs x0 y0 x1 y1 s t := by
  unfold crs
  grind
theorem bary_x (x0 y0 x1 y1 x2 y2 s t : Int) : crs x1 y1 x2 y2 s t * x0 + (crs x2 y2 x0 y0 s t * x1 + (crs x0 y0 x1 y1 s t * x2 + 0)) = crs x0 y0 x1 y1 x2 y2 * s := by
  unfold crs
  grind
theorem bary_y (x0 y0 x1 y1 x2 y2 s t : Int) : crs x1 y1 x2 y2 s t * y0 + (crs x2 y2 x0 y0 s t * y1 + (crs x0 y0 x1 y1 s t * y2 + 0)) = crs x0 y0 x1 y1 x2 y2 * t := by
  unfold crs
  grind
end Mine
namespace Mine
section
variable {prog : Program} {w : World} {A : Around} {E : Value → Shared → Prop} {s : Shared} {h₀ : Heap} {L : Addr} {m : Str → Option Value} {env : Env}
noncomputable def TupIn (ax : Addr) (its : Array Value) (nw : List (Addr × Obj)) : Prop := (ax, ({ cls := .type "tuple", data := .seq its } : Obj)) ∈ nw
theorem tupIn_is {h : Heap} {ax : Addr} {its : Array Value} {nw : List (Addr × Obj)} (x : TupIn ax its nw) (N : News h₀ L h nw) : h.IsTuple ax its := ⟨_, (N _ x).1, rfl, 0, rfl⟩
noncomputable def TupSrc (prog : Program) (w : World) (A : Around) (h₀ : Heap) (L : Addr) (m : Str → Option Value) (env : Env) (elt : Expr) (x : Str) (scope : Scope) (cl : List (Str × Addr)) (Q : Value → Shared → Prop) (xv : Value) (s₁ : Shared) : Prop :=
  ∃ ax its news, xv = .ref ax ∧ A.handled = none ∧ Fr h₀ L s₁.heap m ∧ News h₀ L s₁.heap news ∧ TupIn ax its news ∧ its.size ≤ sizeLine ∧
    ∀ g, LCg.CompRest prog w A h₀ L m env elt x scope cl { s₁ with heap := g } (TupIn ax its) (fun i v => its[i]? = some v) (LCg.FinE h₀ L m { s₁ with heap := g } Q) its.size 0 [] news
theorem TupSrc.at {elt : Expr} {x : Str} {scope : Scope} {cl : List (Str × Addr)} {Q : Value → Shared → Prop} {ax : Addr} {its : Array Value} {news : List (Addr × Obj)} {s₁ : Shared}
    (hh : A.handled = none) (F : Fr h₀ L s₁.heap m) (N : News h₀ L s₁.heap news) (hm : (ax, ({ cls := .type "tuple", data := .seq its } : Obj)) ∈ news) (hsz : its.size ≤ sizeLine)
    (h : ∀ g, LCg.CompRest prog w A h₀ L m env elt x scope cl { s₁ with heap := g } (TupIn ax its) (fun i v => its[i]? = some v) (LCg.FinE h₀ L m { s₁ with heap := g } Q) its.size 0 [] news) :
    TupSrc prog w A h₀ L m env elt x scope cl Q (.ref ax) s₁ := ⟨ax, its, news, rfl, hh, F, N, hm, hsz, h⟩
theorem lc_tup {elt iter : Expr} {x : Str} {px : Pos} {scope : Scope} {cl : List (Str × Addr)} {pos : Pos} {Q : Value → Shared → Prop} (_F₀ : Fr h₀ L s.heap m)
    (hclos : closureFor scope env = pure cl) (hcell : ∀ y ∈ scope.names, y.2 ≠ .cell) (hkind : scope.kind = .function)
    (hnames : ∀ y ∈ scope.names, y.2 = .local → scope.names.lookup y.1 = some .local) (hx : scope.names.lookup x = some .local)
    (h : wpAny (model prog w) A (eval iter env) (TupSrc prog w A h₀ L m env elt x scope cl Q) E s)
    (hs : ∀ x, foldedSetIterable iter env x = pure x := by intro _; rfl) :
    wpAny (model prog w) A (eval (.ListComp elt [⟨.Name x px, iter, [], 0⟩] scope pos) env) Q E s := by
  rw [eval_ListComp]
  refine wpAny_comprehension_free (use := none) rfl hs hclos hkind hnames (wpAny_mono h ?_ (fun _ _ e => e))
  rintro xv s₁ ⟨ax, its, nw, rfl, hh, F, N, hm, hsz, R⟩
  have ht := tupIn_is hm N
  have lt : ax < s₁.heap.objs.size := Heap.lt_size (N _ hm).1
  refine wpAny_pyIter_tuple ht ?_
  have grow : ∀ b o, s₁.heap.get? b = some o → (s₁.heap.push { cls := .type "tuple_iterator", data := .fields #[.ref ax, .int 0 0] }).get? b = some o := fun _ _ e => Heap.get?_push_of_some _ e
  have st : ∀ i (h h' : Heap) (o : Obj) (nw : List (Addr × Obj)), (h.IsTupleIter s₁.heap.objs.size ax i ∧ h.IsTuple ax its) → h.get? s₁.heap.objs.size = some o → h'.get? s₁.heap.objs.size = some o → (∀ b o, h₀.get? b = some o → h'.get? b = some o) → News h₀ L h' nw → TupIn ax its nw → (h'.IsTupleIter s₁.heap.objs.size ax i ∧ h'.IsTuple ax its) := by
    rintro i h h' o nw ⟨⟨o', e', r⟩, _⟩ e1 e2 _ N' t'
    obtain rfl : o = o' := Option.some.inj (e1.symm.trans e')
    exact ⟨⟨o, e2, r⟩, tupIn_is t' N'⟩
  refine LCg.block_U (Walks.tuple hh s₁.heap.objs.size ax (Nat.ne_of_lt lt) its) hsz (fun i h q => ?_) st hcell hkind hx ⟨⟨_, Heap.get?_push_size _ rfl, rfl, rfl⟩, ht.push _⟩ ?_
    (F.keeps grow) (N.grown grow) (Nat.ne_of_lt F.ns.lt) (next_is_new F) (fun p hp => Nat.ne_of_lt (Heap.lt_size (N p hp).1)) hm (R _) ?_
  · obtain ⟨⟨o, e, _⟩, _⟩ := q
    exact ⟨o, e⟩
  · intro b hb
    have sz : (s₁.heap.push { cls := .type "tuple_iterator", data := .fields #[.ref ax, .int 0 0] }).objs.size = s₁.heap.objs.size + 1 := Heap.size_push ..
    show b < (s₁.heap.push _).objs.size
    rw [sz]
    simp only [List.mem_cons, List.not_mem_nil, or_false] at hb
    rcases hb with hb | hb
    · rw [hb]; exact Nat.lt_succ_self _
    · rw [hb]; exact Nat.lt_succ_of_lt lt
  · intro D C h tk m' ys nw' F' N' o1 ns hC₀ hD₀ hCL hDL hCD off fin
    refine ⟨m', ns, fun h2 same => fin D h2 tk (F'.change same hCL hC₀) (fun p hp => ⟨same.extBut _ _ (fun e => ?_) (N' p hp).1, (N' p hp).2⟩) o1⟩
    rcases List.mem_cons.mp hp with q | hp
    · subst q; exact hCD e.symm
    · exact off p hp e
end
theorem compEnd_same {h₀ : Heap} {L I C D : Addr} {m : Str → Option Value} {s₁ : Shared} {oI oC oD : Obj} {S : List (Addr × Obj) → Prop} {rest : Value → List (Addr × Obj) → Prop} {y : Value} {h' : Heap} {tk : Nat} {left : List (Addr × Obj)}
    (F : Fr h₀ L h' m) (N : News h₀ L h' ((I, oI) :: (C, oC) :: (D, oD) :: left)) (off : LCg.Off3 I C D left) (hS : S left) (r : rest y left) :
    LCg.CompEnd h₀ L m s₁ I oI C oC D oD S rest y { s₁ with heap := h', toks := tk } := LCg.CompEnd.intro F N left (fun _ h => h) off hS r
end Mine
namespace Mine
section
variable {prog : Program} {w : World} {A A₁ : Around} {E : Value → Shared → Prop} {s : Shared} {env : Env} {h₀ : Heap} {x : Str} {body : List Stmt} {Q : Flow → Shared → Prop}
theorem range_own {σ : Type} {r : Addr} {a₀ b₀ : Int} {t₀ u₀ v₀ : Tok} {n : Nat} {m₀ : Str → Option Value} {news : List (Addr × Obj)}
    (R : σ → (Str → Option Value) → List (Addr × Obj) → Prop) (g : σ → Int → σ) (c₀ : σ)
    (hh : A.handled = none) (hr : IsRange s.heap r a₀ b₀ 1 t₀ u₀ v₀) (hsmall : Builtin.Range.small a₀ b₀ 1 = true) (hn : Builtin.Range.rangeSize a₀ b₀ 1 = (n : Int)) (F : Fr h₀ env.locals s.heap m₀) (N : News h₀ env.locals s.heap news) (hR : R c₀ m₀ news)
    (turn : ∀ k t a m₁ nx h tk J oJ, k ∈ rangeKs a₀ n → (∀ p ∈ news, p.1 < J) → R a m₁ nx → Fr h₀ env.locals h (fun y => if y = x then some (.int k t) else m₁ y) → News h₀ env.locals h (nx ++ [(J, oJ)]) →
      wpAny (model prog w) A (execs body env) (InvPostN h₀ env.locals (R (g a k)) [(J, oJ)] (news.map (·.1)) { s with heap := h, toks := tk } Q) E { s with heap := h, toks := tk })
    (done : ∀ m₁ nx h tk, R ((rangeKs a₀ n).foldl g c₀) m₁ nx → Fr h₀ env.locals h m₁ → News h₀ env.locals h nx → Q .next { s with heap := h, toks := tk }) :
    wpAny (model prog w) A (pyIter (.ref r)) (fun it s₂ => LoopAtV prog w A h₀ env x body Q E it s₂) E s := by
  refine wpAny_pyIter_range hr hsmall ?_
  have W : Walks prog w A s.heap.objs.size [s.heap.objs.size] [s.heap.objs.size] n (fun i v => i < n ∧ ∃ t, v = .int (a₀ + i * 1) t)
      (fun i h => IsRangeIter h s.heap.objs.size (a₀ + (i : Nat) * 1) ((n : Int) - (i : Nat)) 1) := (Walks.range hh _ a₀ 1 n).bound
  have below : ∀ p ∈ news, p.1 < s.heap.objs.size := fun p hp => Heap.lt_size (N p hp).1
  have one : ∀ {b : Addr}, b ∈ [s.heap.objs.size] → b = s.heap.objs.size := fun h => List.mem_singleton.mp h
  refine ⟨_, _, _, n, _, _, m₀, news, fun i m nx => nx.map (·.1) = news.map (·.1) ∧ R (((rangeKs a₀ n).take i).foldl g c₀) m nx, rfl, W, ?_, ?_, ?_, by show IsRangeIter _ _ _ _ _; rw [hn]; simpa using Heap.get?_push_size _ rfl, F.push _, fun p hp => ⟨Heap.get?_push_of_some _ (N p hp).1, (N p hp).2⟩, ⟨rfl, by simpa using hR⟩, ?_, ?_⟩
  · intro hm
    have e := one hm
    have l := F.ns.lt
    rw [e] at l
    exact Nat.lt_irrefl _ l
  · intro b hb
    rw [one hb]
    exact next_is_new F
  · intro p hp hI
    have l := below p hp
    rw [one hI] at l
    exact Nat.lt_irrefl _ l
  · rintro i v m₁ nx s₁ own ⟨h, tk, rfl⟩ hin ⟨_, t, rfl⟩ ⟨hadr, hJ⟩ hoff hown hat hall hst F₁ N₁
    obtain ⟨oJ, hoJ⟩ : ∃ o, h.get? s.heap.objs.size = some o := ⟨_, hst⟩
    have hmem := hall s.heap.objs.size (.head _) (next_is_new F) oJ hoJ
    have hk : (rangeKs a₀ n)[i]? = some (a₀ + (i : Int) * 1) := by simp [rangeKs, hin]
    have N₂ : News h₀ env.locals h (nx ++ [(s.heap.objs.size, oJ)]) := fun p hp => by
      rcases List.mem_append.mp hp with q | q
      · exact N₁ p (List.mem_append.mpr (.inr q))
      · rw [List.mem_singleton.mp q]
        exact N₁ _ (List.mem_append.mpr (.inl hmem))
    have hs : ((rangeKs a₀ n).take (i + 1)).foldl g c₀ = g (((rangeKs a₀ n).take i).foldl g c₀) (a₀ + (i : Int) * 1) := by
      rw [List.take_add_one, hk]
      simp
    refine wpAny_mono (turn _ t _ m₁ nx h tk s.heap.objs.size oJ (List.mem_of_getElem? hk) below hJ F₁ N₂) (fun f s₂ p => ?_) fun _ _ e => e
    have fin : InvEndN h₀ env.locals (R (g (((rangeKs a₀ n).take i).foldl g c₀) (a₀ + (i : Int) * 1))) [(s.heap.objs.size, oJ)] (news.map (·.1)) { s with heap := h, toks := tk } s₂ →
        LoopStepU h₀ env.locals [s.heap.objs.size] own (fun m nx => nx.map (·.1) = news.map (·.1) ∧ R (((rangeKs a₀ n).take (i + 1)).foldl g c₀) m nx) { s with heap := h, toks := tk } .next s₂ := by
      rintro ⟨h', tk', m', news', nx', e, F', N', hn', ho', ha', hm'⟩
      refine ⟨rfl, h', tk', m', nx', e, F', fun p hp => ?_, fun p hp hq => ?_, ha', hs ▸ hm'⟩
      · rcases List.mem_append.mp hp with q | q
        · have e1 := one (hown p q)
          have e2 : h.get? p.1 = some p.2 := hat p q
          rw [e1, hoJ] at e2
          have e3 : p = (s.heap.objs.size, oJ) := Prod.ext e1 (Option.some.inj e2).symm
          rw [e3]
          exact N' _ (ho' _ (.head _))
        · exact N' p (hn' p q)
      · have l : p.1 ∈ news.map (·.1) := ha' ▸ List.mem_map.mpr ⟨p, hp, rfl⟩
        obtain ⟨q, hq1, hq2⟩ := List.mem_map.mp l
        have l2 := below q hq1
        rw [hq2, one hq] at l2
        exact Nat.lt_irrefl _ l2
    cases f with
    | ret v => exact .ret p
    | brk => exact .brk p
    | next => exact .next (fin p)
    | cont => exact .cont (fin p)
  · rintro h' tk m' nx' F' N' _ ⟨_, hJ⟩
    have e : (rangeKs a₀ n).take n = rangeKs a₀ n := List.take_of_length_le (Nat.le_of_eq (rangeKs_length a₀ n))
    rw [e] at hJ
    exact done m' nx' h' tk hJ F' N'
theorem sub_list {h₀ : Heap} {L : Addr} {news : List (Addr × Obj)} {l : Addr} {o : Obj} {vs : List Value} {kk : Nat} {value slice : Expr} {i : Int} {u : Tok} {v : Value} {Q : Value → Shared → Prop} (N : News h₀ L s.heap news)
    (hm : (l, o) ∈ news) (ho : o = { cls := .type "list", data := .seq vs.toArray kk }) (h0 : 0 ≤ i) (h1 : i < 2 ^ 63) (hx : vs[i.toNat]? = some v) (h : Q v s)
    (hs : subscripted slice false (.ref l) (.int i u) = operate [.ref l, .int i u] (getItem (.ref l) (.int i u)) := by with_unfolding_all rfl) (hg : ∀ r, letTemporaryGo value (.ref l) r = pure () := by intro _; with_unfolding_all rfl) :
    wpAny (model prog w) A (subscriptTail value slice (.ref l) (.int i u)) Q E s := by
  subst ho
  exact item_list ⟨_, (N _ hm).1, rfl, _, rfl⟩ h0 h1 (by simpa using hx) h hs hg
theorem fdiv_known {a A n : Int} {t u : Tok} {Q : Value → Shared → Prop} (h0 : 0 < A) (h1 : A ≤ 9) (e : a = A * n) (h : Q (.int n s.toks) { s with toks := s.toks + 1 }) : wpAny (model prog w) A₁ (binaryOp .FloorDiv (.int a t) (.int A u)) Q E s := by
  refine floordiv_int (by omega) ?_ (.inl (PyProof.noPylong_small (by omega)))
  rw [e, Int.mul_fdiv_cancel_left _ (by omega)]
  exact h
theorem eq_known {h₀ : Heap} {L : Addr} {news : List (Addr × Obj)} {a b : Addr} {x y z : Int} {t1 t2 t3 u1 u2 u3 : Tok} {Q : Value → Shared → Prop} (N : News h₀ L s.heap news)
    (ha : (a, LCg.lst [.int x t1, .int y t2, .int z t3]) ∈ news) (hb : (b, W.listOf #[.int x u1, .int y u2, .int z u3] 0) ∈ news) (hu : A.units + 64 < cLine) (h : Q (.bool true) s) :
    wpAny (model prog w) A (compareOp .Eq (.ref a) (.ref b)) Q E s := by
  refine eq_intsK (vs := [.int x t1, .int y t2, .int z t3]) (us := [.int x u1, .int y u2, .int z u3]) (ns := [x, y, z]) (ms := [x, y, z]) ⟨_, (N _ ha).1, rfl, _, rfl⟩ (.cons _ _ (.cons _ _ (.cons _ _ .nil))) ⟨_, (N _ hb).1, rfl, _, rfl⟩ (.cons _ _ (.cons _ _ (.cons _ _ .nil))) hu ?_
  rw [decide_eq_true rfl]
  exact h
noncomputable def sel4 (i r0 r1 r2 r3 : Int) : Int := if i = 0 then r0 else if i = 1 then r1 else if i = 2 then r2 else r3
theorem upd_of {d : Addr} {o o' : Obj} {post : List (Addr × Obj)} (hb : ∀ p ∈ post, p.1 ≠ d) : ∀ (pre : List (Addr × Obj)), (∀ p ∈ pre, p.1 ≠ d) → Upd d o o' (pre ++ (d, o) :: post) (pre ++ (d, o') :: post)
  | [], _ => .head hb
  | _ :: r, h => .tail (h _ (.head _)) (upd_of hb r fun p hp => h p (.tail _ hp))
theorem get4 {h₀ : Heap} {L R : Addr} {news : List (Addr × Obj)} {i r0 r1 r2 r3 : Int} {k0 k1 k2 k3 t : Tok} {Q : Value → Shared → Prop} (N : News h₀ L s.heap news) (hm : (R, W.listOf #[.int r0 k0, .int r1 k1, .int r2 k2, .int r3 k3] 0) ∈ news) (h0 : 0 ≤ i) (h1 : i ≤ 3)
    (h : ∀ t, Q (.int (sel4 i r0 r1 r2 r3) t) s) : wpAny (model prog w) A (getItem (.ref R) (.int i t)) Q E s := by
  refine ksa_get (vs := [.int r0 k0, .int r1 k1, .int r2 k2, .int r3 k3]) (ns := [r0, r1, r2, r3]) N hm (.cons _ _ (.cons _ _ (.cons _ _ (.cons _ _ .nil)))) h0 (by simp only [List.length_cons, List.length_nil]; omega) (by omega) fun t => ?_
  have e : [r0, r1, r2, r3].getD i.toNat 0 = sel4 i r0 r1 r2 r3 := by
    have hi : i = 0 ∨ i = 1 ∨ i = 2 ∨ i = 3 := by omega
    rcases hi with rfl | rfl | rfl | rfl <;> rfl
  rw [e]
  exact h t
theorem set4 {h₀ : Heap} {L R : Addr} {m : Str → Option Value} {news : List (Addr × Obj)} {gl : Obj → List (Addr × Obj)} {i x r0 r1 r2 r3 : Int} {k0 k1 k2 k3 t u : Tok} {Q : Unit → Shared → Prop} (F : Fr h₀ L s.heap m) (N : News h₀ L s.heap news) (U : UpdF R (W.listOf #[.int r0 k0, .int r1 k1, .int r2 k2, .int r3 k3] 0) news gl) (h0 : 0 ≤ i) (h1 : i ≤ 3)
    (h : ∀ h' j0 j1 j2 j3, Fr h₀ L h' m → News h₀ L h' (gl (W.listOf #[.int (if i = 0 then x else r0) j0, .int (if i = 1 then x else r1) j1, .int (if i = 2 then x else r2) j2, .int (if i = 3 then x else r3) j3] 0)) → Q () { s with heap := h' }) :
    wpAny (model prog w) A (setItem (.ref R) (.int i t) (.int x u)) Q E s := by
  obtain ⟨pre, post, rfl, hg, ha, hb⟩ := U.split
  refine ksa_set (vs := [.int r0 k0, .int r1 k1, .int r2 k2, .int r3 k3]) (ns := [r0, r1, r2, r3]) F N (upd_of hb pre ha) (.cons _ _ (.cons _ _ (.cons _ _ (.cons _ _ .nil)))) h0 (by simp only [List.length_cons, List.length_nil]; omega) (by omega) fun h' F' N' _ _ _ => ?_
  have hi : i = 0 ∨ i = 1 ∨ i = 2 ∨ i = 3 := by omega
  rcases hi with rfl | rfl | rfl | rfl
  · exact h h' u k1 k2 k3 F' (by rw [hg]; exact N')
  · exact h h' k0 u k2 k3 F' (by rw [hg]; exact N')
  · exact h h' k0 k1 u k3 F' (by rw [hg]; exact N')
  · exact h h' k0 k1 k2 u F' (by rw [hg]; exact N')
end
end Mine
namespace Mine
open PySem.Flt
local macro_rules | `(tactic| k_asm) => `(tactic| k_extra "MY asm")
local macro_rules | `(tactic| walk_at "call ref") => `(tactic| (k_extra "MY Pa1"; k_extra "MY Pa61"))
local macro_rules | `(tactic| walk_at "MY enterRC") => `(tactic| (k_extra "MY Pa2"; intro g' L' h' tk' cells' FG' F' N' Y' B' X' T' l1 gk'; (try k_lt l1); k_cells Y'; (try simp only [List.cons_append, List.nil_append] at N'); (try dsimp only); (try k_lift B'); (try k_fold)))

theorem ordOf' {D : Addr} {o : Obj} {news : List (Addr × Obj)} (h : ∀ q ∈ news, ∀ p ∈ [(D, o)], q.1 < p.1) : ∀ q ∈ news, q.1 < D := fun q hq => h q hq (D, o) (.head _)
theorem off1_ne {D a : Addr} {o : Obj} {l : List (Addr × Obj)} (h : LCg.Off1 D l) (hm : (a, o) ∈ l) : a ≠ D := by
  induction l with
  | nil => cases hm
  | cons p r ih =>
    rcases List.mem_cons.mp hm with e | e
    · subst e; exact h.1
    · exact ih h.2 e
theorem newsSub' {h₀ h : Heap} {L : Addr} {l l' : List (Addr × Obj)} (N : News h₀ L h l) (hs : ∀ p ∈ l', p ∈ l) : News h₀ L h l' := fun p hp => N p (hs p hp)
abbrev Row4 := Int × Int × Int × Int
noncomputable def PaL (L' R I c : Addr) (tail : List (Addr × Obj)) (p : Row4 × Row4) (nx : List (Addr × Obj)) : Prop :=
  ∃ (oL oC : Obj) (v : Option Value) (k0 k1 k2 k3 k4 k5 k6 k7 : Tok), oL.data = .cell v ∧ oC.data = .cell (some (.ref c)) ∧ nx = (I, W.listOf #[.int p.2.1 k0, .int p.2.2.1 k1, .int p.2.2.2.1 k2, .int p.2.2.2.2 k3] 0) :: (R, W.listOf #[.int p.1.1 k4, .int p.1.2.1 k5, .int p.1.2.2.1 k6, .int p.1.2.2.2 k7] 0) :: (L' + 1 + 1, oL) :: (L' + 1, oC) :: tail
noncomputable def bump (p : Row4) (y v : Int) : Row4 := (if y = 0 then sel4 y p.1 p.2.1 p.2.2.1 p.2.2.2 + v else p.1, if y = 1 then sel4 y p.1 p.2.1 p.2.2.1 p.2.2.2 + v else p.2.1, if y = 2 then sel4 y p.1 p.2.1 p.2.2.1 p.2.2.2 + v else p.2.2.1, if y = 3 then sel4 y p.1 p.2.1 p.2.2.1 p.2.2.2 + v else p.2.2.2)
noncomputable def paT (A r gr b sx sy : Int) (p : Row4 × Row4) : Row4 × Row4 := if 0 ≤ r ∧ 0 ≤ gr ∧ 0 ≤ b then (bump p.1 sy (2 ^ sx.toNat), if 0 < r ∧ 0 < gr ∧ 0 < b then bump p.2 sy (2 ^ sx.toNat) else p.2) else p
noncomputable def paG (x0 y0 x1 y1 x2 y2 : Int) (p : Row4 × Row4) (k : Int) : Row4 × Row4 :=
  paT (crs x0 y0 x1 y1 x2 y2) (crs x1 y1 x2 y2 (k.fmod 4) (k.fdiv 4)) (crs x2 y2 x0 y0 (k.fmod 4) (k.fdiv 4)) (crs x0 y0 x1 y1 x2 y2 - crs x1 y1 x2 y2 (k.fmod 4) (k.fdiv 4) - crs x2 y2 x0 y0 (k.fmod 4) (k.fdiv 4)) (k.fmod 4) (k.fdiv 4) p
theorem paG_eq {x0 y0 x1 y1 x2 y2 k sx sy A r gr b : Int} {p : Row4 × Row4} (h1 : k.fmod 4 = sx) (h2 : k.fdiv 4 = sy) (h3 : crs x0 y0 x1 y1 x2 y2 = A) (h4 : crs x1 y1 x2 y2 sx sy = r) (h5 : crs x2 y2 x0 y0 sx sy = gr) (h6 : A - r - gr = b) : paG x0 y0 x1 y1 x2 y2 p k = paT A r gr b sx sy p := by
  subst h1 h2 h3 h4 h5 h6
  rfl
theorem paT_no {A r gr b sx sy : Int} {p : Row4 × Row4} (h : ¬ (0 ≤ r ∧ 0 ≤ gr ∧ 0 ≤ b)) : paT A r gr b sx sy p = p := if_neg h
theorem paT_in {A r gr b sx sy : Int} {p : Row4 × Row4} {q : Bool} (h : 0 ≤ r ∧ 0 ≤ gr ∧ 0 ≤ b) (h1 : q = decide (0 < r ∧ 0 < gr ∧ 0 < b)) (h2 : q = true) : paT A r gr b sx sy p = (bump p.1 sy (2 ^ sx.toNat), bump p.2 sy (2 ^ sx.toNat)) := by
  unfold paT
  rw [if_pos h, if_pos (of_decide_eq_true (h1.symm.trans h2))]
theorem paT_rim {A r gr b sx sy : Int} {p : Row4 × Row4} {q : Bool} (h : 0 ≤ r ∧ 0 ≤ gr ∧ 0 ≤ b) (h1 : q = decide (0 < r ∧ 0 < gr ∧ 0 < b)) (h2 : q = false) : paT A r gr b sx sy p = (bump p.1 sy (2 ^ sx.toNat), p.2) := by
  unfold paT
  rw [if_pos h, if_neg (of_decide_eq_false (h1.symm.trans h2))]
theorem pa_end {g : Heap} {L : Addr} {Rl : (Str → Option Value) → List (Addr × Obj) → Prop} {m' : Str → Option Value} {own As nws : List (Addr × Obj)} {adr : List Addr} {s₁ : Shared} {h : Heap} {tk : Nat} (F : Fr g L h m') (N : News g L h nws) (h1 : ∀ p ∈ As, p ∈ nws) (h2 : ∀ p ∈ own, p ∈ nws) (ha : As.map (·.1) = adr) (hj : Rl m' As) : InvEndN g L Rl own adr s₁ { s₁ with heap := h, toks := tk } :=
  InvEndN.intro F N hj ha h1 h2
abbrev PaRes (p : Row4 × Row4) (v : Value) (tl : List (Addr × Obj)) : Prop := ∃ D R I k0 k1 k2 k3 k4 k5 k6 k7, v = .ref D ∧ tl = [(D, tupOf [.ref R, .ref I]), (R, lstOf [.int p.1.1 k4, .int p.1.2.1 k5, .int p.1.2.2.1 k6, .int p.1.2.2.2 k7]), (I, lstOf [.int p.2.1 k0, .int p.2.2.1 k1, .int p.2.2.2.1 k2, .int p.2.2.2.2 k3])]
noncomputable def painted (x0 y0 x1 y1 x2 y2 : Int) : Row4 × Row4 := (rangeKs 0 16).foldl (paG x0 y0 x1 y1 x2 y2) ((0, 0, 0, 0), (0, 0, 0, 0))
theorem newsThree {h₀ h : Heap} {L : Addr} {l news : List (Addr × Obj)} {p q r : Addr × Obj} (N : News h₀ L h l) (h1 : p ∈ l) (h2 : q ∈ l) (h3 : r ∈ l) (hs : ∀ p ∈ news, p ∈ l) : News h₀ L h (p :: q :: r :: news) := by
  intro x hx
  rcases List.mem_cons.mp hx with rfl | hx
  · exact N _ h1
  rcases List.mem_cons.mp hx with rfl | hx
  · exact N _ h2
  rcases List.mem_cons.mp hx with rfl | hx
  · exact N _ h3
  · exact N _ (hs x hx)
theorem paL_intro {L' R I c : Addr} {tail : List (Addr × Obj)} {p : Row4 × Row4} {nx : List (Addr × Obj)} {oL oC : Obj} {v : Option Value} {k0 k1 k2 k3 k4 k5 k6 k7 : Tok}
    (hn : nx = (I, W.listOf #[.int p.2.1 k0, .int p.2.2.1 k1, .int p.2.2.2.1 k2, .int p.2.2.2.2 k3] 0) :: (R, W.listOf #[.int p.1.1 k4, .int p.1.2.1 k5, .int p.1.2.2.1 k6, .int p.1.2.2.2 k7] 0) :: (L' + 1 + 1, oL) :: (L' + 1, oC) :: tail) (h1 : oL.data = .cell v) (h2 : oC.data = .cell (some (.ref c))) : PaL L' R I c tail p nx := ⟨oL, oC, v, k0, k1, k2, k3, k4, k5, k6, k7, h1, h2, hn⟩
structure PaM (m : Str → Option Value) (R I : Addr) (A : Int) : Prop where
  r : m (Str.ofString "rimmed") = some (.ref R)
  i : m (Str.ofString "inner") = some (.ref I)
  a : ∃ t, m (Str.ofString "area") = some (.int A t)
noncomputable def PaJ (g : Heap) (L : Addr) (s : Shared) (c a1 a2 a3 : Addr) (tail : List (Addr × Obj)) (A : Int) (s' : Shared) : Prop := ∃ h2 tk m' R I nx, s' = { s with heap := h2, toks := tk } ∧ Fr g L h2 m' ∧ News g L h2 nx ∧ PaL L R I c tail ((0, 0, 0, 0), (0, 0, 0, 0)) nx ∧ PaM m' R I A ∧
  (@LT.lt Nat _ (L + 1 + 1) (R) ∧ @LT.lt Nat _ (L + 1) (R) ∧ @LT.lt Nat _ (c) (R) ∧ @LT.lt Nat _ (a1) (R) ∧ @LT.lt Nat _ (a2) (R) ∧ @LT.lt Nat _ (a3) (R)) ∧ (@LT.lt Nat _ (R) (I) ∧ @LT.lt Nat _ (L + 1 + 1) (I) ∧ @LT.lt Nat _ (L + 1) (I) ∧ @LT.lt Nat _ (c) (I) ∧ @LT.lt Nat _ (a1) (I) ∧ @LT.lt Nat _ (a2) (I) ∧ @LT.lt Nat _ (a3) (I))
noncomputable def PaK (g : Heap) (L : Addr) (s : Shared) (R I : Addr) (A r gr b : Int) (led : List (Addr × Obj)) (s' : Shared) : Prop := ∃ h2 tk m' t1 t2 t3, s' = { s with heap := h2, toks := tk } ∧ Fr g L h2 m' ∧ News g L h2 led ∧ PaM m' R I A ∧ m' (Str.ofString "red") = some (.int r t1) ∧ m' (Str.ofString "green") = some (.int gr t2) ∧ m' (Str.ofString "blue") = some (.int b t3)
local macro_rules | `(tactic| walk_at "call ref") => `(tactic| (k_extra "MY Pa3"; k_extra "MY Pa62"))
local macro_rules | `(tactic| walk_at "call ref") => `(tactic| (k_extra "MY Pa4"; k_extra "MY Pa63"))
local macro_rules | `(tactic| walk_at "binaryOp Div int int") => `(tactic| k_extra "MY Pa31")
local macro_rules | `(tactic| walk_at "compareOp LtE float float") => `(tactic| (k_extra "MY Pa5"))
local macro_rules | `(tactic| walk_at "call type:int") => `(tactic| (k_extra "MY Pa6"))
local macro_rules | `(tactic| walk_at "eval ListComp") => `(tactic| (k_extra "MY Pa7"))
local macro_rules | `(tactic| walk_at "TupSrc") => `(tactic| k_extra "MY Pa32")
local macro_rules | `(tactic| k_ne) => `(tactic| k_extra "MY ne")
local macro_rules | `(tactic| walk_at "CompRest") => `(tactic| (with_unfolding_all first
  | (refine LCg.CompRest.succ ?_; intro v' I' oI' C' oC' D' m' h' tk' E' hv' hC' hx' F' N' off' ne'; clear ne'; (first | lcg_open hv' | (obtain ⟨t9', hv9'⟩ := hv'; subst hv9')))
  | refine LCg.CompRest.zero ?_))
local macro_rules | `(tactic| walk_at "FinE") => `(tactic| ((unfold LCg.FinE); intro D' h' tk' F' N' o1'; (try simp only [List.nil_append, List.cons_append] at N'); (try dsimp only)))
local macro_rules | `(tactic| walk_at "CompEnd") => `(tactic| (k_extra "MY Pa8"))
local macro_rules | `(tactic| walk_at "compareOp Eq ref ref") => `(tactic| (k_extra "MY Pa9"))
local macro_rules | `(tactic| walk_at "getItem ref int") => `(tactic| (k_extra "MY Pa10"; intro t'))
local macro_rules | `(tactic| walk_at "setItem ref int") => `(tactic| (k_extra "MY Pa11"; intro h' j0' j1' j2' j3' F' N'; (try dsimp only at N'); (try k_sweep)))
local macro_rules | `(tactic| walk_at "eval ListComp") => `(tactic| (k_extra "MY Pa12"))
local macro_rules | `(tactic| walk_at "binaryOp FloorDiv int int") => `(tactic| (k_extra "MY Pa13"))
local macro_rules | `(tactic| walk_at "CompSrc") => `(tactic| k_extra "MY Pa33")
local macro_rules | `(tactic| walk_at "subscriptTail Name Name ref int") => `(tactic| (k_extra "MY Pa14"))
local macro_rules | `(tactic| lcg_src) => `(tactic| k_extra "MY src")
set_option maxHeartbeats 8000000 in
theorem c_painted (w : World) (mean : ExcName → Option Value) (mg mb : Str → Option Value) (c a1 a2 a3 : Addr) (x0 y0 x1 y1 x2 y2 : Int) (t0 u0 t1 u1 t2 u2 : Tok) (h1 : 0 ≤ x0 ∧ x0 ≤ 3) (h2 : 0 ≤ y0 ∧ y0 ≤ 3) (h3 : 0 ≤ x1 ∧ x1 ≤ 3) (h4 : 0 ≤ y1 ∧ y1 ≤ 3) (h5 : 0 ≤ x2 ∧ x2 ≤ 3) (h6 : 0 ≤ y2 ∧ y2 ≤ 3) (hp : 0 < crs x0 y0 x1 y1 x2 y2) :
   CtrN w mean mg mb (fun _ => True) 95 12 [(c, lstOf [.ref a1, .ref a2, .ref a3]), (a1, spotOf x0 y0 t0 u0), (a2, spotOf x1 y1 t1 u1), (a3, spotOf x2 y2 t2 u2)] [.ref c] (PaRes (painted x0 y0 x1 y1 x2 y2)) := by
  w_top off
  k_with_none
  k_with "MY Pa61" => (intro v' tl' h' tk' hres' F' N' ho'; (refine Exists.elim hres'.2 ?_); intro t' hv'; (have htl' := hres'.1); subst hv' htl'; clear hres' ho'; (simp only [List.nil_append] at N'); (replace N' := nTail (nTail (nTail N'))); (try dsimp only); (try k_fold))
  k_with "MY Pa62" => (intro v' tl' h' tk' hres' F' N' ho'; (obtain ⟨D', x', y', z', t1', t2', t3', hv', ht', hfact'⟩ := hres'); subst hv' ht'; (replace ho' := ordOf' ho'); (try k_lt ho'); (simp only [List.cons_append, List.nil_append] at N'); (try dsimp only); (try k_fold))
  k_with "MY Pa63" => (intro v' tl' h' tk' hres' F' N' ho'; (obtain ⟨D', x', y', z', t1', t2', t3', hv', ht', hl1', hl2', hl3'⟩ := hres'); subst hv' ht'; (replace ho' := ordOf' ho'); (try k_lt ho'); (simp only [List.cons_append, List.nil_append] at N'); (try dsimp only); (try k_fold))
  k_with "MY asm" => (first | with_reducible assumption | assumption | exact nTail (by assumption) | exact nTail (nTail (by assumption)))
  k_with "MY Pa31" => (with_reducible refine div16 rfl (by omega) (by omega) ?_)
  k_with "MY Pa32" => (k_here; k_dflt (refine TupSrc.at (by rfl) (by k_asm) (by k_asm) (by k_mem) (by first | size_fits | exact Nat.le_of_ble_eq_true rfl) ?_; intro _; lcg_lit))
  k_with "MY ne" => (refine neN ?_; (try dsimp only); first | exact off1_ne (by with_reducible assumption) (by k_mem) | exact Ne.symm (off1_ne (by with_reducible assumption) (by k_mem)) | omega)
  k_with "MY Pa33" => (k_here; k_dflt (refine LCg.CompSrc.range (by rfl) (by k_asm) (by k_asm) (by assumption) (by first | decide | rfl) (by first | rfl | decide) (by first | size_fits | exact Nat.le_of_ble_eq_true rfl) ?_; intro _; lcg_lit))
  k_with "MY src" => ((with_reducible show TupIn _ _ _); (unfold TupIn); k_mem)
  k_with "MY Pa1" => (k_here; k_dflt (refine' (c_cross _ _ _ _ _ _ _ _ _ _ _ _ _ _ _ _ _ _ _ _ ?h1 ?h2 ?h3 ?h4 ?h5 ?h6) _ _ _ _ _ _ _ _ _ _ _ _ _ _ _ _ _ ?k1 ?k2 ?k3 ?k4 ?k5 ?kK ?kd ?ku ?_; (case k4 => exact newsDup (newsDup (newsDup (by k_asm) (by k_mem)) (by k_mem)) (by k_mem)); (case k1 => k_asm); (case k2 => k_asm); (case k3 => k_asm); (case k5 => k_asm); (case kK => first | exact rfl | assumption); (case kd => ktr_room); (case ku => ktr_units); (case h1 => (constructor <;> omega)); (case h2 => (constructor <;> omega)); (case h3 => (constructor <;> omega)); (case h4 => (constructor <;> omega)); (case h5 => (constructor <;> omega)); (case h6 => (constructor <;> omega))))
  k_with "MY Pa2" => (refine' enterRC ?k1 ?k2 ?k3 ?k4 ?k5 ?kA ?kF ?kK ?k6 ?k7 ?k8 ?k9 ?kB ?kD ?_ ?c2 ?c3 ?c4; (case kA => exact rfl); (case kF => exact rfl); (case kK => assumption); (case k1 => k_asm); (case k2 => k_asm); (case k3 => k_asm); (case k4 => k_asm); (case k5 => k_asm); (case k6 => k_is); (case k7 => k_is); (case k8 => ktr_room); (case k9 => exact BindsTo.of_eq rfl); (case kB => exact rfl); (case kD => decide +kernel); (case c2 => exact rfl); (case c3 => exact rfl); (case c4 => exact rfl); k_whole)
  k_with "MY Pa3" => (k_here; k_dflt (refine' (c_rgbq _ _ _ _ _ _ _ _ _ _ _ ?h1 ?h2 ?h3 ?h4 ?h5) _ _ _ _ _ _ _ _ _ _ _ _ _ _ _ _ _ ?k1 ?k2 ?k3 ?k4 ?k5 ?kK ?kd ?ku ?_; (case k4 => k_asm); (case k1 => k_asm); (case k2 => k_asm); (case k3 => k_asm); (case k5 => k_asm); (case kK => first | exact rfl | assumption); (case kd => ktr_room); (case ku => ktr_units); (case h1 => (constructor <;> omega)); (case h2 => (constructor <;> omega)); (case h3 => (constructor <;> omega)); (case h4 => omega); (case h5 => omega)))
  k_with "MY Pa4" => (k_here; k_dflt (refine' (c_hsvq _ _ _ _ _ _ _ _ _ _ _ _ _ _ ?h1) _ _ _ _ _ _ _ _ _ _ _ _ _ _ _ _ _ ?k1 ?k2 ?k3 ?k4 ?k5 ?kK ?kd ?ku ?_; (case k4 => k_asm); (case k1 => k_asm); (case k2 => k_asm); (case k3 => k_asm); (case k5 => k_asm); (case kK => first | exact rfl | assumption); (case kd => ktr_room); (case ku => ktr_units); (case h1 => with_reducible assumption)))
  k_with "MY Pa5" => (with_reducible refine le_known (by with_reducible assumption) ?_)
  k_with "MY Pa6" => (with_reducible refine int_known rfl (by with_reducible assumption) ?_)
  k_with "MY Pa7" => (k_here; lcg_look; k_dflt (refine lc_tup (by k_asm) (by rfl) (by decide) (by rfl) (by decide) (by rfl) ?_))
  k_with "MY Pa8" => (k_here; (refine' compEnd_same ?F ?N ?o ?S ?_); (case F => assumption); (case N => with_reducible assumption); (case o => with_reducible assumption); (case S => lcg_src))
  k_with "MY Pa9" => (k_here; (refine' eq_known ?F ?N ?o ?S ?_); (case F => k_asm); (case N => k_mem); (case o => k_mem); (case S => ktr_units))
  k_with "MY Pa10" => (k_here; k_dflt (refine' get4 ?s1 ?s2 ?s3 ?s4 ?_; (case s1 => k_asm); (case s2 => k_mem); (case s3 => assumption); (case s4 => assumption)))
  k_with "MY Pa11" => (k_here; k_dflt (refine' set4 ?s1 ?s2 ?s3 ?s4 ?s5 ?_; (case s1 => k_asm); (case s2 => k_asm); (case s3 => k_updF); (case s4 => assumption); (case s5 => assumption)))
  k_with "MY Pa12" => (k_here; lcf_look; k_dflt (refine LCg.ListComp_U (F₀ := by k_asm) (by with_unfolding_all rfl) (by decide) (by rfl) (by decide) (by rfl) ?_); k_dflt lcg_toSrc)
  k_with "MY Pa13" => (with_reducible refine fdiv_known (by assumption) (by assumption) (by assumption) ?_)
  k_with "MY Pa14" => (k_here; (with_reducible show wpAny _ _ (subscriptTail (Expr.Name _ _) _ (Value.ref _) (Value.int _ _)) _ _ _); k_dflt (refine' sub_list ?s1 ?s2 ?s3 ?s4 ?s5 ?s6 ?_; (case s1 => k_asm); (case s2 => k_mem); (case s3 => rfl); (case s4 => decide); (case s5 => decide); (case s6 => rfl); k_whole))
  obtain ⟨b1, b2⟩ := h1
  obtain ⟨b3, b4⟩ := h2
  obtain ⟨b5, b6⟩ := h3
  obtain ⟨b7, b8⟩ := h4
  obtain ⟨b9, b10⟩ := h5
  obtain ⟨b11, b12⟩ := h6
  unfold CtrN
  k_fill
  intro dp un gd cn cs ad ccd cl outer A₀ base h₀ L m s Q E B F X N T hk hd' hu _ hret
  refine wpAny_call ?_
  k_dflt (walk_at "MY enterRC")
  (rename ∀ (b : Addr) (o : Obj), s.heap.get? b = some o → _ → _ => gk')
  (rename Below _ _ (_ :: _) _ => B')
  k_with_none
  k_with "MY Pa61" => (intro v' tl' h' tk' hres' F' N' ho'; (refine Exists.elim hres'.2 ?_); intro t' hv'; (have htl' := hres'.1); subst hv' htl'; clear hres' ho'; (simp only [List.nil_append] at N'); (replace N' := nTail (nTail (nTail N'))); (try dsimp only); (try k_fold))
  k_with "MY Pa62" => (intro v' tl' h' tk' hres' F' N' ho'; (obtain ⟨D', x', y', z', t1', t2', t3', hv', ht', hfact'⟩ := hres'); subst hv' ht'; (replace ho' := ordOf' ho'); (try k_lt ho'); (simp only [List.cons_append, List.nil_append] at N'); (try dsimp only); (try k_fold))
  k_with "MY Pa63" => (intro v' tl' h' tk' hres' F' N' ho'; (obtain ⟨D', x', y', z', t1', t2', t3', hv', ht', hl1', hl2', hl3'⟩ := hres'); subst hv' ht'; (replace ho' := ordOf' ho'); (try k_lt ho'); (simp only [List.cons_append, List.nil_append] at N'); (try dsimp only); (try k_fold))
  k_with "MY asm" => (first | with_reducible assumption | assumption | exact nTail (by assumption) | exact nTail (nTail (by assumption)))
  k_with "MY Pa31" => (with_reducible refine div16 rfl (by omega) (by omega) ?_)
  k_with "MY Pa32" => (k_here; k_dflt (refine TupSrc.at (by rfl) (by k_asm) (by k_asm) (by k_mem) (by first | size_fits | exact Nat.le_of_ble_eq_true rfl) ?_; intro _; lcg_lit))
  k_with "MY ne" => (refine neN ?_; (try dsimp only); first | exact off1_ne (by with_reducible assumption) (by k_mem) | exact Ne.symm (off1_ne (by with_reducible assumption) (by k_mem)) | omega)
  k_with "MY Pa33" => (k_here; k_dflt (refine LCg.CompSrc.range (by rfl) (by k_asm) (by k_asm) (by assumption) (by first | decide | rfl) (by first | rfl | decide) (by first | size_fits | exact Nat.le_of_ble_eq_true rfl) ?_; intro _; lcg_lit))
  k_with "MY src" => ((with_reducible show TupIn _ _ _); (unfold TupIn); k_mem)
  k_with "MY Pa1" => (k_here; k_dflt (refine' (c_cross _ _ _ _ _ _ _ _ _ _ _ _ _ _ _ _ _ _ _ _ ?h1 ?h2 ?h3 ?h4 ?h5 ?h6) _ _ _ _ _ _ _ _ _ _ _ _ _ _ _ _ _ ?k1 ?k2 ?k3 ?k4 ?k5 ?kK ?kd ?ku ?_; (case k4 => exact newsDup (newsDup (newsDup (by k_asm) (by k_mem)) (by k_mem)) (by k_mem)); (case k1 => k_asm); (case k2 => k_asm); (case k3 => k_asm); (case k5 => k_asm); (case kK => first | exact rfl | assumption); (case kd => ktr_room); (case ku => ktr_units); (case h1 => (constructor <;> omega)); (case h2 => (constructor <;> omega)); (case h3 => (constructor <;> omega)); (case h4 => (constructor <;> omega)); (case h5 => (constructor <;> omega)); (case h6 => (constructor <;> omega))))
  k_with "MY Pa2" => (refine' enterRC ?k1 ?k2 ?k3 ?k4 ?k5 ?kA ?kF ?kK ?k6 ?k7 ?k8 ?k9 ?kB ?kD ?_ ?c2 ?c3 ?c4; (case kA => exact rfl); (case kF => exact rfl); (case kK => assumption); (case k1 => k_asm); (case k2 => k_asm); (case k3 => k_asm); (case k4 => k_asm); (case k5 => k_asm); (case k6 => k_is); (case k7 => k_is); (case k8 => ktr_room); (case k9 => exact BindsTo.of_eq rfl); (case kB => exact rfl); (case kD => decide +kernel); (case c2 => exact rfl); (case c3 => exact rfl); (case c4 => exact rfl); k_whole)
  k_with "MY Pa3" => (k_here; k_dflt (refine' (c_rgbq _ _ _ _ _ _ _ _ _ _ _ ?h1 ?h2 ?h3 ?h4 ?h5) _ _ _ _ _ _ _ _ _ _ _ _ _ _ _ _ _ ?k1 ?k2 ?k3 ?k4 ?k5 ?kK ?kd ?ku ?_; (case k4 => k_asm); (case k1 => k_asm); (case k2 => k_asm); (case k3 => k_asm); (case k5 => k_asm); (case kK => first | exact rfl | assumption); (case kd => ktr_room); (case ku => ktr_units); (case h1 => (constructor <;> omega)); (case h2 => (constructor <;> omega)); (case h3 => (constructor <;> omega)); (case h4 => omega); (case h5 => omega)))
  k_with "MY Pa4" => (k_here; k_dflt (refine' (c_hsvq _ _ _ _ _ _ _ _ _ _ _ _ _ _ ?h1) _ _ _ _ _ _ _ _ _ _ _ _ _ _ _ _ _ ?k1 ?k2 ?k3 ?k4 ?k5 ?kK ?kd ?ku ?_; (case k4 => k_asm); (case k1 => k_asm); (case k2 => k_asm); (case k3 => k_asm); (case k5 => k_asm); (case kK => first | exact rfl | assumption); (case kd => ktr_room); (case ku => ktr_units); (case h1 => with_reducible assumption)))
  k_with "MY Pa5" => (with_reducible refine le_known (by with_reducible assumption) ?_)
  k_with "MY Pa6" => (with_reducible refine int_known rfl (by with_reducible assumption) ?_)
  k_with "MY Pa7" => (k_here; lcg_look; k_dflt (refine lc_tup (by k_asm) (by rfl) (by decide) (by rfl) (by decide) (by rfl) ?_))
  k_with "MY Pa8" => (k_here; (refine' compEnd_same ?F ?N ?o ?S ?_); (case F => assumption); (case N => with_reducible assumption); (case o => with_reducible assumption); (case S => lcg_src))
  k_with "MY Pa9" => (k_here; (refine' eq_known ?F ?N ?o ?S ?_); (case F => k_asm); (case N => k_mem); (case o => k_mem); (case S => ktr_units))
  k_with "MY Pa10" => (k_here; k_dflt (refine' get4 ?s1 ?s2 ?s3 ?s4 ?_; (case s1 => k_asm); (case s2 => k_mem); (case s3 => assumption); (case s4 => assumption)))
  k_with "MY Pa11" => (k_here; k_dflt (refine' set4 ?s1 ?s2 ?s3 ?s4 ?s5 ?_; (case s1 => k_asm); (case s2 => k_asm); (case s3 => k_updF); (case s4 => assumption); (case s5 => assumption)))
  k_with "MY Pa12" => (k_here; lcf_look; k_dflt (refine LCg.ListComp_U (F₀ := by k_asm) (by with_unfolding_all rfl) (by decide) (by rfl) (by decide) (by rfl) ?_); k_dflt lcg_toSrc)
  k_with "MY Pa13" => (with_reducible refine fdiv_known (by assumption) (by assumption) (by assumption) ?_)
  k_with "MY Pa14" => (k_here; (with_reducible show wpAny _ _ (subscriptTail (Expr.Name _ _) _ (Value.ref _) (Value.int _ _)) _ _ _); k_dflt (refine' sub_list ?s1 ?s2 ?s3 ?s4 ?s5 ?s6 ?_; (case s1 => k_asm); (case s2 => k_mem); (case s3 => rfl); (case s4 => decide); (case s5 => decide); (case s6 => rfl); k_whole))
  rename_i g' L' h' tk' FG' F' X' T' l1 oA oB dA dB N'
  refine execs_cut (pre := [_, _, _]) (PaJ g' L' s c a1 a2 a3 [(c, lstOf [.ref a1, .ref a2, .ref a3]), (a1, spotOf x0 y0 t0 u0), (a2, spotOf x1 y1 t1 u1), (a3, spotOf x2 y2 t2 u2)] (crs x0 y0 x1 y1 x2 y2)) ?_ ?_
  · refine gen_post fun Qz Ez hQz _ => ?_
    k_steps
    refine hQz _ _ ?_
    refine' ⟨rfl, _, _, _, _, _, _, rfl, ?F, ?N, ⟨_, _, _, _, _, _, _, _, _, _, _, ?d1, ?d2, rfl⟩, ⟨?e1, ?e2, ⟨_, ?e3⟩⟩, ?l1, ?l2⟩
    (case F => k_asm)
    (case N => assumption)
    (case d1 => (refine Eq.trans (by assumption) ?_; with_unfolding_all rfl))
    (case d2 => (refine Eq.trans (by assumption) ?_; with_unfolding_all rfl))
    (case l1 => assumption)
    (case l2 => assumption)
    (case e1 => with_unfolding_all rfl)
    (case e2 => with_unfolding_all rfl)
    (case e3 => with_unfolding_all rfl)
  · rintro s' ⟨h2, tk, m', R, I, nx, rfl, F2, N2, hL0, ⟨q1, q2, ⟨y3, q3⟩⟩, lR, lI⟩
    have hL1 := hL0
    obtain ⟨oL, oC, v, k0, k1, k2, k3, k4, k5, k6, k7, dL, dC, rfl⟩ := hL1
    rw [nrm1' q1, nrm1' q2, nrm1' q3] at F2
    clear q1 q2 q3
    clear F' N' dA dB
    k_with "pyIter ref" => (refine Halt.out ?_)
    k_steps
    unfold Halt
    (rename IsRange _ _ _ _ _ _ _ _ => hr)
    refine range_own (σ := Row4 × Row4) (n := 16) (a₀ := 0) (b₀ := 16) (fun st m nx => PaL L' R I c [(c, lstOf [.ref a1, .ref a2, .ref a3]), (a1, spotOf x0 y0 t0 u0), (a2, spotOf x1 y1 t1 u1), (a3, spotOf x2 y2 t2 u2)] st nx ∧ PaM m R I (crs x0 y0 x1 y1 x2 y2)) (paG x0 y0 x1 y1 x2 y2) ((0, 0, 0, 0), (0, 0, 0, 0)) (by rfl) hr (by decide) (by decide) (by k_asm) (by k_asm) ⟨hL0, ⟨by with_unfolding_all rfl, by with_unfolding_all rfl, ⟨_, by with_unfolding_all rfl⟩⟩⟩ ?_ ?_
    · clear hL0 dL dC hr
      rintro k t ⟨⟨r0, r1, r2, r3⟩, ⟨i0, i1, i2, i3⟩⟩ m₁ nx h tk J oJ hk lJ ⟨⟨oL, oC, v, k0, k1, k2, k3, k4, k5, k6, k7, dL, dC, rfl⟩, ⟨q1, q2, ⟨y3, q3⟩⟩⟩ F₁ N₁
      change Fr g' L' h _ at F₁
      change News g' L' h _ at N₁
      simp only [List.cons_append, List.nil_append] at N₁
      rw [nrm1' q1, nrm1' q2, nrm1' q3] at F₁
      clear q1 q2 q3
      have hk2 := mem_rangeKs hk
      k_lt lJ
      have aR : LCg.Off1 (R) [(I, oJ), (L' + 1 + 1, oJ), (L' + 1, oJ), (c, oJ), (a1, oJ), (a2, oJ), (a3, oJ), (J, oJ)] := ⟨neN (by omega), neN (by omega), neN (by omega), neN (by omega), neN (by omega), neN (by omega), neN (by omega), neN (by omega), trivial⟩
      have aI : LCg.Off1 (I) [(R, oJ), (L' + 1 + 1, oJ), (L' + 1, oJ), (c, oJ), (a1, oJ), (a2, oJ), (a3, oJ), (J, oJ)] := ⟨neN (by omega), neN (by omega), neN (by omega), neN (by omega), neN (by omega), neN (by omega), neN (by omega), neN (by omega), trivial⟩
      have aL : LCg.Off1 (L' + 1 + 1) [(I, oJ), (R, oJ), (L' + 1, oJ), (c, oJ), (a1, oJ), (a2, oJ), (a3, oJ), (J, oJ)] := ⟨neN (by omega), neN (by omega), neN (by omega), neN (by omega), neN (by omega), neN (by omega), neN (by omega), neN (by omega), trivial⟩
      obtain ⟨w1, w2, w3, w4⟩ := fm4 (x := k) (by omega) (by omega)
      refine execs_cut (pre := [_, _, _, _]) (PaK g' L' s R I (crs x0 y0 x1 y1 x2 y2) (crs x1 y1 x2 y2 (k.fmod 4) (k.fdiv 4)) (crs x2 y2 x0 y0 (k.fmod 4) (k.fdiv 4)) (crs x0 y0 x1 y1 x2 y2 - crs x1 y1 x2 y2 (k.fmod 4) (k.fdiv 4) - crs x2 y2 x0 y0 (k.fmod 4) (k.fdiv 4)) ((I, W.listOf #[.int i0 k0, .int i1 k1, .int i2 k2, .int i3 k3] 0) :: (R, W.listOf #[.int r0 k4, .int r1 k5, .int r2 k6, .int r3 k7] 0) :: (L' + 1 + 1, oL) :: (L' + 1, oC) :: (c, lstOf [.ref a1, .ref a2, .ref a3]) :: (a1, spotOf x0 y0 t0 u0) :: (a2, spotOf x1 y1 t1 u1) :: (a3, spotOf x2 y2 t2 u2) :: [(J, oJ)])) ?_ ?_
      · refine gen_post fun Qz Ez hQz _ => ?_
        k_steps
        refine hQz _ _ ?_
        refine' ⟨rfl, _, _, _, _, _, _, rfl, ?F, ?N, ⟨?e1, ?e2, ⟨_, ?e3⟩⟩, ?e4, ?e5, ?e6⟩
        (case F => k_asm)
        (case N => k_asm)
        (case e1 => with_unfolding_all rfl)
        (case e2 => with_unfolding_all rfl)
        (case e3 => with_unfolding_all rfl)
        (case e4 => with_unfolding_all rfl)
        (case e5 => with_unfolding_all rfl)
        (case e6 => with_unfolding_all rfl)
      · have hrb := crs_bd (a := x1) (b := y1) (c := x2) (d := y2) (e := k.fmod 4) (f := k.fdiv 4) ⟨b5, b6⟩ ⟨b7, b8⟩ ⟨b9, b10⟩ ⟨b11, b12⟩ ⟨w1, w2⟩ ⟨w3, w4⟩
        have hgb := crs_bd (a := x2) (b := y2) (c := x0) (d := y0) (e := k.fmod 4) (f := k.fdiv 4) ⟨b9, b10⟩ ⟨b11, b12⟩ ⟨b1, b2⟩ ⟨b3, b4⟩ ⟨w1, w2⟩ ⟨w3, w4⟩
        have hbb := crs_bd (a := x0) (b := y0) (c := x1) (d := y1) (e := k.fmod 4) (f := k.fdiv 4) ⟨b1, b2⟩ ⟨b3, b4⟩ ⟨b5, b6⟩ ⟨b7, b8⟩ ⟨w1, w2⟩ ⟨w3, w4⟩
        have hab := crs_bd (a := x0) (b := y0) (c := x1) (d := y1) (e := x2) (f := y2) ⟨b1, b2⟩ ⟨b3, b4⟩ ⟨b5, b6⟩ ⟨b7, b8⟩ ⟨b9, b10⟩ ⟨b11, b12⟩
        have hx := bary_x x0 y0 x1 y1 x2 y2 (k.fmod 4) (k.fdiv 4)
        have hy := bary_y x0 y0 x1 y1 x2 y2 (k.fmod 4) (k.fdiv 4)
        have hs := crs_sum x0 y0 x1 y1 x2 y2 (k.fmod 4) (k.fdiv 4)
        rw [← hs] at hx hy hbb
        clear hs
        obtain ⟨_, hA9⟩ := hab
        generalize hsx : k.fmod 4 = sx at *
        generalize hsy : k.fdiv 4 = sy at *
        generalize hA : crs x0 y0 x1 y1 x2 y2 = A at *
        generalize hr : crs x1 y1 x2 y2 sx sy = r at *
        generalize hg : crs x2 y2 x0 y0 sx sy = gr at *
        generalize hb : A - r - gr = b at *
        clear F₁ N₁
        rintro s' ⟨h2, tk, m', t3, t4, t5, rfl, F2, N2, ⟨q1, q2, ⟨y3, q3⟩⟩, q4, q5, q6⟩
        rw [nrm1' q1, nrm1' q2, nrm1' q3, nrm1' q4, nrm1' q5, nrm1' q6] at F2
        clear q1 q2 q3 q4 q5 q6
        refine gen_post fun Qz Ez hQz _ => ?_
        k_with "storeName" => (refine Halt.out ?_)
        k_steps
        unfold Halt
        (rename HsvFacts _ _ _ _ _ _ => hfact)
        k_with_none
        k_with "MY Pa61" => (intro v' tl' h' tk' hres' F' N' ho'; (refine Exists.elim hres'.2 ?_); intro t' hv'; (have htl' := hres'.1); subst hv' htl'; clear hres' ho'; (simp only [List.nil_append] at N'); (replace N' := nTail (nTail (nTail N'))); (try dsimp only); (try k_fold))
        k_with "MY Pa62" => (intro v' tl' h' tk' hres' F' N' ho'; (obtain ⟨D', x', y', z', t1', t2', t3', hv', ht', hfact'⟩ := hres'); subst hv' ht'; (replace ho' := ordOf' ho'); (try k_lt ho'); (simp only [List.cons_append, List.nil_append] at N'); (try dsimp only); (try k_fold))
        k_with "MY Pa63" => (intro v' tl' h' tk' hres' F' N' ho'; (obtain ⟨D', x', y', z', t1', t2', t3', hv', ht', hl1', hl2', hl3'⟩ := hres'); subst hv' ht'; (replace ho' := ordOf' ho'); (try k_lt ho'); (simp only [List.cons_append, List.nil_append] at N'); (try dsimp only); (try k_fold))
        k_with "MY asm" => (first | with_reducible assumption | assumption | exact nTail (by assumption) | exact nTail (nTail (by assumption)))
        k_with "MY Pa31" => (with_reducible refine div16 rfl (by omega) (by omega) ?_)
        k_with "MY Pa32" => (k_here; k_dflt (refine TupSrc.at (by rfl) (by k_asm) (by k_asm) (by k_mem) (by first | size_fits | exact Nat.le_of_ble_eq_true rfl) ?_; intro _; lcg_lit))
        k_with "MY ne" => (refine neN ?_; (try dsimp only); first | exact off1_ne (by with_reducible assumption) (by k_mem) | exact Ne.symm (off1_ne (by with_reducible assumption) (by k_mem)) | omega)
        k_with "MY Pa33" => (k_here; k_dflt (refine LCg.CompSrc.range (by rfl) (by k_asm) (by k_asm) (by assumption) (by first | decide | rfl) (by first | rfl | decide) (by first | size_fits | exact Nat.le_of_ble_eq_true rfl) ?_; intro _; lcg_lit))
        k_with "MY src" => ((with_reducible show TupIn _ _ _); (unfold TupIn); k_mem)
        k_with "MY Pa1" => (k_here; k_dflt (refine' (c_cross _ _ _ _ _ _ _ _ _ _ _ _ _ _ _ _ _ _ _ _ ?h1 ?h2 ?h3 ?h4 ?h5 ?h6) _ _ _ _ _ _ _ _ _ _ _ _ _ _ _ _ _ ?k1 ?k2 ?k3 ?k4 ?k5 ?kK ?kd ?ku ?_; (case k4 => exact newsDup (newsDup (newsDup (by k_asm) (by k_mem)) (by k_mem)) (by k_mem)); (case k1 => k_asm); (case k2 => k_asm); (case k3 => k_asm); (case k5 => k_asm); (case kK => first | exact rfl | assumption); (case kd => ktr_room); (case ku => ktr_units); (case h1 => (constructor <;> omega)); (case h2 => (constructor <;> omega)); (case h3 => (constructor <;> omega)); (case h4 => (constructor <;> omega)); (case h5 => (constructor <;> omega)); (case h6 => (constructor <;> omega))))
        k_with "MY Pa2" => (refine' enterRC ?k1 ?k2 ?k3 ?k4 ?k5 ?kA ?kF ?kK ?k6 ?k7 ?k8 ?k9 ?kB ?kD ?_ ?c2 ?c3 ?c4; (case kA => exact rfl); (case kF => exact rfl); (case kK => assumption); (case k1 => k_asm); (case k2 => k_asm); (case k3 => k_asm); (case k4 => k_asm); (case k5 => k_asm); (case k6 => k_is); (case k7 => k_is); (case k8 => ktr_room); (case k9 => exact BindsTo.of_eq rfl); (case kB => exact rfl); (case kD => decide +kernel); (case c2 => exact rfl); (case c3 => exact rfl); (case c4 => exact rfl); k_whole)
        k_with "MY Pa3" => (k_here; k_dflt (refine' (c_rgbq _ _ _ _ _ _ _ _ _ _ _ ?h1 ?h2 ?h3 ?h4 ?h5) _ _ _ _ _ _ _ _ _ _ _ _ _ _ _ _ _ ?k1 ?k2 ?k3 ?k4 ?k5 ?kK ?kd ?ku ?_; (case k4 => k_asm); (case k1 => k_asm); (case k2 => k_asm); (case k3 => k_asm); (case k5 => k_asm); (case kK => first | exact rfl | assumption); (case kd => ktr_room); (case ku => ktr_units); (case h1 => (constructor <;> omega)); (case h2 => (constructor <;> omega)); (case h3 => (constructor <;> omega)); (case h4 => omega); (case h5 => omega)))
        k_with "MY Pa4" => (k_here; k_dflt (refine' (c_hsvq _ _ _ _ _ _ _ _ _ _ _ _ _ _ ?h1) _ _ _ _ _ _ _ _ _ _ _ _ _ _ _ _ _ ?k1 ?k2 ?k3 ?k4 ?k5 ?kK ?kd ?ku ?_; (case k4 => k_asm); (case k1 => k_asm); (case k2 => k_asm); (case k3 => k_asm); (case k5 => k_asm); (case kK => first | exact rfl | assumption); (case kd => ktr_room); (case ku => ktr_units); (case h1 => with_reducible assumption)))
        k_with "MY Pa5" => (with_reducible refine le_known (by with_reducible assumption) ?_)
        k_with "MY Pa6" => (with_reducible refine int_known rfl (by with_reducible assumption) ?_)
        k_with "MY Pa7" => (k_here; lcg_look; k_dflt (refine lc_tup (by k_asm) (by rfl) (by decide) (by rfl) (by decide) (by rfl) ?_))
        k_with "MY Pa8" => (k_here; (refine' compEnd_same ?F ?N ?o ?S ?_); (case F => assumption); (case N => with_reducible assumption); (case o => with_reducible assumption); (case S => lcg_src))
        k_with "MY Pa9" => (k_here; (refine' eq_known ?F ?N ?o ?S ?_); (case F => k_asm); (case N => k_mem); (case o => k_mem); (case S => ktr_units))
        k_with "MY Pa10" => (k_here; k_dflt (refine' get4 ?s1 ?s2 ?s3 ?s4 ?_; (case s1 => k_asm); (case s2 => k_mem); (case s3 => assumption); (case s4 => assumption)))
        k_with "MY Pa11" => (k_here; k_dflt (refine' set4 ?s1 ?s2 ?s3 ?s4 ?s5 ?_; (case s1 => k_asm); (case s2 => k_asm); (case s3 => k_updF); (case s4 => assumption); (case s5 => assumption)))
        k_with "MY Pa12" => (k_here; lcf_look; k_dflt (refine LCg.ListComp_U (F₀ := by k_asm) (by with_unfolding_all rfl) (by decide) (by rfl) (by decide) (by rfl) ?_); k_dflt lcg_toSrc)
        k_with "MY Pa13" => (with_reducible refine fdiv_known (by assumption) (by assumption) (by assumption) ?_)
        k_with "MY Pa14" => (k_here; (with_reducible show wpAny _ _ (subscriptTail (Expr.Name _ _) _ (Value.ref _) (Value.int _ _)) _ _ _); k_dflt (refine' sub_list ?s1 ?s2 ?s3 ?s4 ?s5 ?s6 ?_; (case s1 => k_asm); (case s2 => k_mem); (case s3 => rfl); (case s4 => decide); (case s5 => decide); (case s6 => rfl); k_whole))
        rcases hfact with ⟨p1, p2, p3, hok⟩ | ⟨hneg, hle⟩
        · obtain ⟨hle, hlt⟩ := hsvOk_le hok
          k_with "exec AugAssign Subscript" => (refine Halt.out ?_)
          k_steps
          unfold Halt
          k_with_none
          k_with "MY Pa61" => (intro v' tl' h' tk' hres' F' N' ho'; (refine Exists.elim hres'.2 ?_); intro t' hv'; (have htl' := hres'.1); subst hv' htl'; clear hres' ho'; (simp only [List.nil_append] at N'); (replace N' := nTail (nTail (nTail N'))); (try dsimp only); (try k_fold))
          k_with "MY Pa62" => (intro v' tl' h' tk' hres' F' N' ho'; (obtain ⟨D', x', y', z', t1', t2', t3', hv', ht', hfact'⟩ := hres'); subst hv' ht'; (replace ho' := ordOf' ho'); (try k_lt ho'); (simp only [List.cons_append, List.nil_append] at N'); (try dsimp only); (try k_fold))
          k_with "MY Pa63" => (intro v' tl' h' tk' hres' F' N' ho'; (obtain ⟨D', x', y', z', t1', t2', t3', hv', ht', hl1', hl2', hl3'⟩ := hres'); subst hv' ht'; (replace ho' := ordOf' ho'); (try k_lt ho'); (simp only [List.cons_append, List.nil_append] at N'); (try dsimp only); (try k_fold))
          k_with "MY asm" => (first | with_reducible assumption | assumption | exact nTail (by assumption) | exact nTail (nTail (by assumption)))
          k_with "MY Pa31" => (with_reducible refine div16 rfl (by omega) (by omega) ?_)
          k_with "MY Pa32" => (k_here; k_dflt (refine TupSrc.at (by rfl) (by k_asm) (by k_asm) (by k_mem) (by first | size_fits | exact Nat.le_of_ble_eq_true rfl) ?_; intro _; lcg_lit))
          k_with "MY ne" => (refine neN ?_; (try dsimp only); first | exact off1_ne (by with_reducible assumption) (by k_mem) | exact Ne.symm (off1_ne (by with_reducible assumption) (by k_mem)) | omega)
          k_with "MY Pa33" => (k_here; k_dflt (refine LCg.CompSrc.range (by rfl) (by k_asm) (by k_asm) (by assumption) (by first | decide | rfl) (by first | rfl | decide) (by first | size_fits | exact Nat.le_of_ble_eq_true rfl) ?_; intro _; lcg_lit))
          k_with "MY src" => ((with_reducible show TupIn _ _ _); (unfold TupIn); k_mem)
          k_with "MY Pa1" => (k_here; k_dflt (refine' (c_cross _ _ _ _ _ _ _ _ _ _ _ _ _ _ _ _ _ _ _ _ ?h1 ?h2 ?h3 ?h4 ?h5 ?h6) _ _ _ _ _ _ _ _ _ _ _ _ _ _ _ _ _ ?k1 ?k2 ?k3 ?k4 ?k5 ?kK ?kd ?ku ?_; (case k4 => exact newsDup (newsDup (newsDup (by k_asm) (by k_mem)) (by k_mem)) (by k_mem)); (case k1 => k_asm); (case k2 => k_asm); (case k3 => k_asm); (case k5 => k_asm); (case kK => first | exact rfl | assumption); (case kd => ktr_room); (case ku => ktr_units); (case h1 => (constructor <;> omega)); (case h2 => (constructor <;> omega)); (case h3 => (constructor <;> omega)); (case h4 => (constructor <;> omega)); (case h5 => (constructor <;> omega)); (case h6 => (constructor <;> omega))))
          k_with "MY Pa2" => (refine' enterRC ?k1 ?k2 ?k3 ?k4 ?k5 ?kA ?kF ?kK ?k6 ?k7 ?k8 ?k9 ?kB ?kD ?_ ?c2 ?c3 ?c4; (case kA => exact rfl); (case kF => exact rfl); (case kK => assumption); (case k1 => k_asm); (case k2 => k_asm); (case k3 => k_asm); (case k4 => k_asm); (case k5 => k_asm); (case k6 => k_is); (case k7 => k_is); (case k8 => ktr_room); (case k9 => exact BindsTo.of_eq rfl); (case kB => exact rfl); (case kD => decide +kernel); (case c2 => exact rfl); (case c3 => exact rfl); (case c4 => exact rfl); k_whole)
          k_with "MY Pa3" => (k_here; k_dflt (refine' (c_rgbq _ _ _ _ _ _ _ _ _ _ _ ?h1 ?h2 ?h3 ?h4 ?h5) _ _ _ _ _ _ _ _ _ _ _ _ _ _ _ _ _ ?k1 ?k2 ?k3 ?k4 ?k5 ?kK ?kd ?ku ?_; (case k4 => k_asm); (case k1 => k_asm); (case k2 => k_asm); (case k3 => k_asm); (case k5 => k_asm); (case kK => first | exact rfl | assumption); (case kd => ktr_room); (case ku => ktr_units); (case h1 => (constructor <;> omega)); (case h2 => (constructor <;> omega)); (case h3 => (constructor <;> omega)); (case h4 => omega); (case h5 => omega)))
          k_with "MY Pa4" => (k_here; k_dflt (refine' (c_hsvq _ _ _ _ _ _ _ _ _ _ _ _ _ _ ?h1) _ _ _ _ _ _ _ _ _ _ _ _ _ _ _ _ _ ?k1 ?k2 ?k3 ?k4 ?k5 ?kK ?kd ?ku ?_; (case k4 => k_asm); (case k1 => k_asm); (case k2 => k_asm); (case k3 => k_asm); (case k5 => k_asm); (case kK => first | exact rfl | assumption); (case kd => ktr_room); (case ku => ktr_units); (case h1 => with_reducible assumption)))
          k_with "MY Pa5" => (with_reducible refine le_known (by with_reducible assumption) ?_)
          k_with "MY Pa6" => (with_reducible refine int_known rfl (by with_reducible assumption) ?_)
          k_with "MY Pa7" => (k_here; lcg_look; k_dflt (refine lc_tup (by k_asm) (by rfl) (by decide) (by rfl) (by decide) (by rfl) ?_))
          k_with "MY Pa8" => (k_here; (refine' compEnd_same ?F ?N ?o ?S ?_); (case F => assumption); (case N => with_reducible assumption); (case o => with_reducible assumption); (case S => lcg_src))
          k_with "MY Pa9" => (k_here; (refine' eq_known ?F ?N ?o ?S ?_); (case F => k_asm); (case N => k_mem); (case o => k_mem); (case S => ktr_units))
          k_with "MY Pa10" => (k_here; k_dflt (refine' get4 ?s1 ?s2 ?s3 ?s4 ?_; (case s1 => k_asm); (case s2 => k_mem); (case s3 => assumption); (case s4 => assumption)))
          k_with "MY Pa11" => (k_here; k_dflt (refine' set4 ?s1 ?s2 ?s3 ?s4 ?s5 ?_; (case s1 => k_asm); (case s2 => k_asm); (case s3 => k_updF); (case s4 => assumption); (case s5 => assumption)))
          k_with "MY Pa12" => (k_here; lcf_look; k_dflt (refine LCg.ListComp_U (F₀ := by k_asm) (by with_unfolding_all rfl) (by decide) (by rfl) (by decide) (by rfl) ?_); k_dflt lcg_toSrc)
          k_with "MY Pa13" => (with_reducible refine fdiv_known (by assumption) (by assumption) (by assumption) ?_)
          k_with "MY Pa14" => (k_here; (with_reducible show wpAny _ _ (subscriptTail (Expr.Name _ _) _ (Value.ref _) (Value.int _ _)) _ _ _); k_dflt (refine' sub_list ?s1 ?s2 ?s3 ?s4 ?s5 ?s6 ?_; (case s1 => k_asm); (case s2 => k_mem); (case s3 => rfl); (case s4 => decide); (case s5 => decide); (case s6 => rfl); k_whole))
          (rename News _ _ _ _ => N9)
          replace N9 := newsSub' (l' := [(I, W.listOf #[.int i0 k0, .int i1 k1, .int i2 k2, .int i3 k3] 0), (R, W.listOf #[.int r0 k4, .int r1 k5, .int r2 k6, .int r3 k7] 0), (L' + 1 + 1, _), (L' + 1, oC), (c, lstOf [.ref a1, .ref a2, .ref a3]), (a1, spotOf x0 y0 t0 u0), (a2, spotOf x1 y1 t1 u1), (a3, spotOf x2 y2 t2 u2), (J, oJ)]) N9 (by lcg_sub)
          k_steps
          all_goals (refine hQz _ _ ?_)
          all_goals k_steps
          all_goals rw [paG_eq hsx hsy hA hr hg hb]
          all_goals first
            | rw [paT_in ⟨p1, p2, p3⟩ hlt (by with_reducible assumption)]
            | rw [paT_rim ⟨p1, p2, p3⟩ hlt (by with_reducible assumption)]
          all_goals (refine' pa_end (As := [(I, _), (R, _), (L' + 1 + 1, _), (L' + 1, _), (c, _), (a1, _), (a2, _), (a3, _)]) ?eF ?eN ?e1 ?e2 ?e3 ?e4; (case eF => k_asm); (case eN => assumption); (case e1 => lcg_sub); (case e2 => lcg_sub); (case e3 => exact rfl); (case e4 => exact ⟨paL_intro (by with_unfolding_all rfl) (by with_reducible assumption) (by with_reducible assumption), ⟨by with_unfolding_all rfl, by with_unfolding_all rfl, ⟨_, by with_unfolding_all rfl⟩⟩⟩))
        · k_steps
          refine hQz _ _ ?_
          k_steps
          rw [paG_eq hsx hsy hA hr hg hb, paT_no hneg]
          (refine' pa_end (As := [(I, _), (R, _), (L' + 1 + 1, _), (L' + 1, _), (c, _), (a1, _), (a2, _), (a3, _)]) ?zF ?zN ?z1 ?z2 ?z3 ?z4; (case zF => k_asm); (case zN => assumption); (case z1 => lcg_sub); (case z2 => lcg_sub); (case z3 => exact rfl); (case z4 => exact ⟨paL_intro (by with_unfolding_all rfl) (by with_reducible assumption) (by with_reducible assumption), ⟨by with_unfolding_all rfl, by with_unfolding_all rfl, ⟨_, by with_unfolding_all rfl⟩⟩⟩))
    · rintro m₁ nx h2 tk2 ⟨⟨oL, oC, v, k0, k1, k2, k3, k4, k5, k6, k7, dL, dC, rfl⟩, ⟨q1, q2, ⟨y3, q3⟩⟩⟩ F₁ N₁
      change Fr g' L' h2 _ at F₁
      change News g' L' h2 _ at N₁
      rw [nrm1' q1, nrm1' q2, nrm1' q3] at F₁
      clear q1 q2 q3
      k_with_none
      k_with "MY Pa61" => (intro v' tl' h' tk' hres' F' N' ho'; (refine Exists.elim hres'.2 ?_); intro t' hv'; (have htl' := hres'.1); subst hv' htl'; clear hres' ho'; (simp only [List.nil_append] at N'); (replace N' := nTail (nTail (nTail N'))); (try dsimp only); (try k_fold))
      k_with "MY Pa62" => (intro v' tl' h' tk' hres' F' N' ho'; (obtain ⟨D', x', y', z', t1', t2', t3', hv', ht', hfact'⟩ := hres'); subst hv' ht'; (replace ho' := ordOf' ho'); (try k_lt ho'); (simp only [List.cons_append, List.nil_append] at N'); (try dsimp only); (try k_fold))
      k_with "MY Pa63" => (intro v' tl' h' tk' hres' F' N' ho'; (obtain ⟨D', x', y', z', t1', t2', t3', hv', ht', hl1', hl2', hl3'⟩ := hres'); subst hv' ht'; (replace ho' := ordOf' ho'); (try k_lt ho'); (simp only [List.cons_append, List.nil_append] at N'); (try dsimp only); (try k_fold))
      k_with "MY asm" => (first | with_reducible assumption | assumption | exact nTail (by assumption) | exact nTail (nTail (by assumption)))
      k_with "MY Pa31" => (with_reducible refine div16 rfl (by omega) (by omega) ?_)
      k_with "MY Pa32" => (k_here; k_dflt (refine TupSrc.at (by rfl) (by k_asm) (by k_asm) (by k_mem) (by first | size_fits | exact Nat.le_of_ble_eq_true rfl) ?_; intro _; lcg_lit))
      k_with "MY ne" => (refine neN ?_; (try dsimp only); first | exact off1_ne (by with_reducible assumption) (by k_mem) | exact Ne.symm (off1_ne (by with_reducible assumption) (by k_mem)) | omega)
      k_with "MY Pa33" => (k_here; k_dflt (refine LCg.CompSrc.range (by rfl) (by k_asm) (by k_asm) (by assumption) (by first | decide | rfl) (by first | rfl | decide) (by first | size_fits | exact Nat.le_of_ble_eq_true rfl) ?_; intro _; lcg_lit))
      k_with "MY src" => ((with_reducible show TupIn _ _ _); (unfold TupIn); k_mem)
      k_with "MY Pa1" => (k_here; k_dflt (refine' (c_cross _ _ _ _ _ _ _ _ _ _ _ _ _ _ _ _ _ _ _ _ ?h1 ?h2 ?h3 ?h4 ?h5 ?h6) _ _ _ _ _ _ _ _ _ _ _ _ _ _ _ _ _ ?k1 ?k2 ?k3 ?k4 ?k5 ?kK ?kd ?ku ?_; (case k4 => exact newsDup (newsDup (newsDup (by k_asm) (by k_mem)) (by k_mem)) (by k_mem)); (case k1 => k_asm); (case k2 => k_asm); (case k3 => k_asm); (case k5 => k_asm); (case kK => first | exact rfl | assumption); (case kd => ktr_room); (case ku => ktr_units); (case h1 => (constructor <;> omega)); (case h2 => (constructor <;> omega)); (case h3 => (constructor <;> omega)); (case h4 => (constructor <;> omega)); (case h5 => (constructor <;> omega)); (case h6 => (constructor <;> omega))))
      k_with "MY Pa2" => (refine' enterRC ?k1 ?k2 ?k3 ?k4 ?k5 ?kA ?kF ?kK ?k6 ?k7 ?k8 ?k9 ?kB ?kD ?_ ?c2 ?c3 ?c4; (case kA => exact rfl); (case kF => exact rfl); (case kK => assumption); (case k1 => k_asm); (case k2 => k_asm); (case k3 => k_asm); (case k4 => k_asm); (case k5 => k_asm); (case k6 => k_is); (case k7 => k_is); (case k8 => ktr_room); (case k9 => exact BindsTo.of_eq rfl); (case kB => exact rfl); (case kD => decide +kernel); (case c2 => exact rfl); (case c3 => exact rfl); (case c4 => exact rfl); k_whole)
      k_with "MY Pa3" => (k_here; k_dflt (refine' (c_rgbq _ _ _ _ _ _ _ _ _ _ _ ?h1 ?h2 ?h3 ?h4 ?h5) _ _ _ _ _ _ _ _ _ _ _ _ _ _ _ _ _ ?k1 ?k2 ?k3 ?k4 ?k5 ?kK ?kd ?ku ?_; (case k4 => k_asm); (case k1 => k_asm); (case k2 => k_asm); (case k3 => k_asm); (case k5 => k_asm); (case kK => first | exact rfl | assumption); (case kd => ktr_room); (case ku => ktr_units); (case h1 => (constructor <;> omega)); (case h2 => (constructor <;> omega)); (case h3 => (constructor <;> omega)); (case h4 => omega); (case h5 => omega)))
      k_with "MY Pa4" => (k_here; k_dflt (refine' (c_hsvq _ _ _ _ _ _ _ _ _ _ _ _ _ _ ?h1) _ _ _ _ _ _ _ _ _ _ _ _ _ _ _ _ _ ?k1 ?k2 ?k3 ?k4 ?k5 ?kK ?kd ?ku ?_; (case k4 => k_asm); (case k1 => k_asm); (case k2 => k_asm); (case k3 => k_asm); (case k5 => k_asm); (case kK => first | exact rfl | assumption); (case kd => ktr_room); (case ku => ktr_units); (case h1 => with_reducible assumption)))
      k_with "MY Pa5" => (with_reducible refine le_known (by with_reducible assumption) ?_)
      k_with "MY Pa6" => (with_reducible refine int_known rfl (by with_reducible assumption) ?_)
      k_with "MY Pa7" => (k_here; lcg_look; k_dflt (refine lc_tup (by k_asm) (by rfl) (by decide) (by rfl) (by decide) (by rfl) ?_))
      k_with "MY Pa8" => (k_here; (refine' compEnd_same ?F ?N ?o ?S ?_); (case F => assumption); (case N => with_reducible assumption); (case o => with_reducible assumption); (case S => lcg_src))
      k_with "MY Pa9" => (k_here; (refine' eq_known ?F ?N ?o ?S ?_); (case F => k_asm); (case N => k_mem); (case o => k_mem); (case S => ktr_units))
      k_with "MY Pa10" => (k_here; k_dflt (refine' get4 ?s1 ?s2 ?s3 ?s4 ?_; (case s1 => k_asm); (case s2 => k_mem); (case s3 => assumption); (case s4 => assumption)))
      k_with "MY Pa11" => (k_here; k_dflt (refine' set4 ?s1 ?s2 ?s3 ?s4 ?s5 ?_; (case s1 => k_asm); (case s2 => k_asm); (case s3 => k_updF); (case s4 => assumption); (case s5 => assumption)))
      k_with "MY Pa12" => (k_here; lcf_look; k_dflt (refine LCg.ListComp_U (F₀ := by k_asm) (by with_unfolding_all rfl) (by decide) (by rfl) (by decide) (by rfl) ?_); k_dflt lcg_toSrc)
      k_with "MY Pa13" => (with_reducible refine fdiv_known (by assumption) (by assumption) (by assumption) ?_)
      k_with "MY Pa14" => (k_here; (with_reducible show wpAny _ _ (subscriptTail (Expr.Name _ _) _ (Value.ref _) (Value.int _ _)) _ _ _); k_dflt (refine' sub_list ?s1 ?s2 ?s3 ?s4 ?s5 ?s6 ?_; (case s1 => k_asm); (case s2 => k_mem); (case s3 => rfl); (case s4 => decide); (case s5 => decide); (case s6 => rfl); k_whole))
      k_steps
      refine' hret _ [_, _, _] _ _ ⟨_, _, _, _, _, _, _, _, _, _, _, rfl, rfl⟩ ?zF ?zN ?kp
      (case zN => exact newsThree (by assumption) (by k_mem) (by k_mem) (by k_mem) (by (intro p' hp'; repeat (first | exact hp' | refine List.Mem.tail _ ?_))))
      (case zF => k_asm)
      (case kp => exact fun b o e nb => Fr.keep (by with_reducible assumption) b o (gk' b o e nb))
end Mine
namespace Mine
theorem CtrN.use {w : World} {mean : ExcName → Option Value} {mg mb : Str → Option Value} {pre : Heap → Prop} {f : Addr} {k : Nat} {args : List (Addr × Obj)} {vs : List Value} {Res : Value → List (Addr × Obj) → Prop} (c : CtrN w mean mg mb pre f k args vs Res) {led : List (Addr × Obj)} (hs : ∀ p ∈ args, p ∈ led) :
  ∀ (dp un : Nat) (gd : Option (List Code)) (cn : Str) (cs : Scope) (a : Addr) (ccd : Value) (cl : List (Str × Addr)) (outer : List Env) (A₀ : Around) (base h₀ : Heap) (L : Addr) (m : Str → Option Value) (s : Shared) (Q E : Value → Shared → Prop),
    Below A₀ base outer h₀ → Fr h₀ L s.heap m → (hd.heap_39 w.params).In h₀ → News h₀ L s.heap led → Top hd.view_39 (looseW hd.view_39 [Str.ofString "Flags"]) mean mg mb h₀ → cs.kind = .function → dp + k < recursionLimit → un + 8 * k < cLine → pre base →
    (∀ v tl h' tk', Res v tl → Fr h₀ L h' m → News h₀ L h' (tl ++ led) → Q v { s with heap := h', toks := tk' }) →
    wpAny (model PySem.Challenge.rw_tp0006_01.row.prog w) (ktrTop dp un gd cn cs L a ccd cl outer) (call (.ref f) vs) Q E s := by
  intro dp un gd cn cs a ccd cl outer A₀ base h₀ L m s Q E B F X N T hk hd' hu hp hret
  have NA : News h₀ L s.heap args := fun p hp => N p (hs p hp)
  exact c dp un gd cn cs a ccd cl outer A₀ base h₀ L m s Q E B F X NA T hk hd' hu hp (fun v tl h' tk' hr F' N' kp => hret v tl h' tk' hr F' (newsBack N NA N' kp))
theorem CtrO.use {w : World} {mean : ExcName → Option Value} {mg mb : Str → Option Value} {pre : Heap → Prop} {f : Addr} {k : Nat} {args : List (Addr × Obj)} {vs : List Value} {Res : Value → List (Addr × Obj) → Prop} (c : CtrO w mean mg mb pre f k args vs Res) {led : List (Addr × Obj)} (hs : ∀ p ∈ args, p ∈ led) :
  ∀ (dp un : Nat) (gd : Option (List Code)) (cn : Str) (cs : Scope) (a : Addr) (ccd : Value) (cl : List (Str × Addr)) (outer : List Env) (A₀ : Around) (base h₀ : Heap) (L : Addr) (m : Str → Option Value) (s : Shared) (Q E : Value → Shared → Prop),
    Below A₀ base outer h₀ → Fr h₀ L s.heap m → (hd.heap_39 w.params).In h₀ → News h₀ L s.heap led → Top hd.view_39 (looseW hd.view_39 [Str.ofString "Flags"]) mean mg mb h₀ → cs.kind = .function → dp + k < recursionLimit → un + 8 * k < cLine → pre base →
    (∀ v tl h' tk', Res v tl → Fr h₀ L h' m → News h₀ L h' (tl ++ led) → (∀ q ∈ led, ∀ p ∈ tl, q.1 < p.1) → Q v { s with heap := h', toks := tk' }) →
    wpAny (model PySem.Challenge.rw_tp0006_01.row.prog w) (ktrTop dp un gd cn cs L a ccd cl outer) (call (.ref f) vs) Q E s := by
  intro dp un gd cn cs a ccd cl outer A₀ base h₀ L m s Q E B F X N T hk hd' hu hp hret
  have NA : News h₀ L s.heap args := fun p hp => N p (hs p hp)
  exact c dp un gd cn cs a ccd cl outer A₀ base h₀ L m s Q E B F X NA T hk hd' hu hp (fun v tl h' tk' hr F' N' kp o => hret v tl h' tk' hr F' (newsBack N NA N' kp) fun q hq p hp => Nat.lt_of_lt_of_le (Heap.lt_size (N q hq).1) (o p hp))
noncomputable def edF (dx dy : Int) : Int × Int := (dx.fdiv (partsF dx dy), dy.fdiv (partsF dx dy))
theorem edF_a : ∀ a b : Fin 7, -3 ≤ (edF ((a.val : Int) - 3) ((b.val : Int) - 3)).1 ∧ (edF ((a.val : Int) - 3) ((b.val : Int) - 3)).1 ≤ 3 ∧ -3 ≤ (edF ((a.val : Int) - 3) ((b.val : Int) - 3)).2 ∧ (edF ((a.val : Int) - 3) ((b.val : Int) - 3)).2 ≤ 3 := by decide +kernel
theorem edF_bd {dx dy : Int} (h1 : -3 ≤ dx) (h2 : dx ≤ 3) (h3 : -3 ≤ dy) (h4 : dy ≤ 3) : -3 ≤ (edF dx dy).1 ∧ (edF dx dy).1 ≤ 3 ∧ -3 ≤ (edF dx dy).2 ∧ (edF dx dy).2 ≤ 3 := by
  have := edF_a ⟨(dx + 3).toNat, by omega⟩ ⟨(dy + 3).toNat, by omega⟩
  simp only [Int.toNat_of_nonneg (show 0 ≤ dx + 3 by omega), Int.toNat_of_nonneg (show 0 ≤ dy + 3 by omega), Int.add_sub_cancel] at this
  exact this
abbrev EqRes (dx dy : Int) (v : Value) (tl : List (Addr × Obj)) : Prop := ∃ D ex ey t u, v = .ref D ∧ tl = [(D, spotOf ex ey t u)] ∧ edF dx dy = (ex, ey) ∧ -3 ≤ ex ∧ ex ≤ 3 ∧ -3 ≤ ey ∧ ey ≤ 3
theorem c_edgeq (w : World) (mean : ExcName → Option Value) (mg mb : Str → Option Value) (a1 a2 : Addr) (x0 y0 x1 y1 : Int) (t0 u0 t1 u1 : Tok) (hx0 : 0 ≤ x0 ∧ x0 ≤ 3) (hy0 : 0 ≤ y0 ∧ y0 ≤ 3) (hx1 : 0 ≤ x1 ∧ x1 ≤ 3) (hy1 : 0 ≤ y1 ∧ y1 ≤ 3) :
   CtrO w mean mg mb (fun _ => True) 107 3 [(a1, spotOf x0 y0 t0 u0), (a2, spotOf x1 y1 t1 u1)] [.ref a1, .ref a2] (EqRes (x1 - x0) (y1 - y0)) := by
  have c := c_edge w mean mg mb a1 a2 x0 y0 x1 y1 t0 u0 t1 u1 hx0 hy0 hx1 hy1
  have hb := edF_bd (dx := x1 - x0) (dy := y1 - y0) (by omega) (by omega) (by omega) (by omega)
  intro dp un gd cn cs a ccd cl outer A₀ base h₀ L m s Q E B F X N T hk hd' hu hp hret
  refine c dp un gd cn cs a ccd cl outer A₀ base h₀ L m s Q E B F X N T hk hd' hu hp ?_
  rintro v tl h' tk' ⟨D, t, u, hv, ht⟩
  exact hret v tl h' tk' ⟨D, _, _, t, u, hv, ht, rfl, hb⟩
theorem off_data {h₀ h : Heap} {L a : Addr} {o : Obj} {l : List (Addr × Obj)} (N : News h₀ L h l) (ha : (a, o) ∈ l) {p : Addr × Obj} (hp : p ∈ l) (hd : p.2.data ≠ o.data) : @Ne Nat p.1 a := fun e => by
  have h1 := (N _ hp).1
  have h2 := (N _ ha).1
  have h3 : h.get? p.1 = some o := (congrArg h.get? e).trans h2
  exact hd (congrArg Obj.data (Option.some.inj (h1.symm.trans h3)))
end Mine
namespace Mine
noncomputable def frN {α : Type} (n : Nat) (k : Nat → α) : α := Nat.rec (motive := fun _ => α) (k 0) (fun m _ => k (m + 1)) n
theorem frN_eq {α : Type} (n : Nat) (k : Nat → α) : frN n k = k n := by cases n <;> rfl
noncomputable def frI {α : Type} (x : Int) (k : Int → α) : α := match x with
  | .ofNat n => frN n fun m => k (.ofNat m)
  | .negSucc n => frN n fun m => k (.negSucc m)
theorem frI_eq {α : Type} (x : Int) (k : Int → α) : frI x k = k x := by
  cases x with
  | ofNat n => exact frN_eq n fun m => k (.ofNat m)
  | negSucc n => exact frN_eq n fun m => k (.negSucc m)
noncomputable def PlainOK (S0 S1 S2 m0 n0 m1 n1 m2 n2 : Int) (p : Row4 × Row4) : Prop :=
  S0 * S1 * S2 * 2 ^ Int.toNat 32 ≠ 0 ∧ (S0 * S1 * S2 * 2 ^ Int.toNat 32).natAbs.log2 < 9000 ∧ (0 + m0 * S1 + m1 * S2 + m2 * S0).fmod (S0 * S1 * S2 * 2 ^ Int.toNat 32) = 0 ∧ (0 + n0 * S1 + n1 * S2 + n2 * S0).fmod (S0 * S1 * S2 * 2 ^ Int.toNat 32) = 0 ∧
  ∃ N M : Int, (0 + m0 * S1 + m1 * S2 + m2 * S0).fdiv (S0 * S1 * S2 * 2 ^ Int.toNat 32) = N ∧ (0 + n0 * S1 + n1 * S2 + n2 * S0).fdiv (S0 * S1 * S2 * 2 ^ Int.toNat 32) = M ∧ (0 ≤ N ∧ N < 65536) ∧ (0 ≤ M ∧ M < 65536) ∧
  apL 4 N [] = wd4 (ltr p.1.2.2.2) (ltr p.1.2.2.1) (ltr p.1.2.1) (ltr p.1.1) ∧ apL 4 M [] = wd4 (ltr p.2.2.2.2) (ltr p.2.2.2.1) (ltr p.2.2.1) (ltr p.2.1) ∧
  (0 ≤ p.1.1 ∧ p.1.1 < 16) ∧ (0 ≤ p.1.2.1 ∧ p.1.2.1 < 16) ∧ (0 ≤ p.1.2.2.1 ∧ p.1.2.2.1 < 16) ∧ (0 ≤ p.1.2.2.2 ∧ p.1.2.2.2 < 16) ∧
  (0 ≤ p.2.1 ∧ p.2.1 < 16) ∧ (0 ≤ p.2.2.1 ∧ p.2.2.1 < 16) ∧ (0 ≤ p.2.2.2.1 ∧ p.2.2.2.1 < 16) ∧ (0 ≤ p.2.2.2.2 ∧ p.2.2.2.2 < 16)
noncomputable def sixB (r : Int) : Bool := decide (0 ≤ r) && decide (r < 16)
noncomputable def plR (N : Int) (r0 r1 r2 r3 : Int) : Bool := frI r0 fun r0 => frI r1 fun r1 => frI r2 fun r2 => frI r3 fun r3 =>
  sixB r0 && sixB r1 && sixB r2 && sixB r3 && decide (apL 4 N [] = wd4 (ltr r3) (ltr r2) (ltr r1) (ltr r0))
noncomputable def plC (S0 S1 S2 m0 n0 m1 n1 m2 n2 : Int) (p : Row4 × Row4) : Bool :=
  frI (S0 * S1 * S2 * 2 ^ Int.toNat 32) fun ov => frI (0 + m0 * S1 + m1 * S2 + m2 * S0) fun cl => frI (0 + n0 * S1 + n1 * S2 + n2 * S0) fun ba => frI (cl.fdiv ov) fun N => frI (ba.fdiv ov) fun M =>
  decide (ov ≠ 0) && decide (ov.natAbs.log2 < 9000) && decide (cl.fmod ov = 0) && decide (ba.fmod ov = 0) && decide (0 ≤ N) && decide (N < 65536) && decide (0 ≤ M) && decide (M < 65536) && plR N p.1.1 p.1.2.1 p.1.2.2.1 p.1.2.2.2 && plR M p.2.1 p.2.2.1 p.2.2.2.1 p.2.2.2.2
theorem plR_ok {N r0 r1 r2 r3 : Int} (h : plR N r0 r1 r2 r3 = true) : ((0 ≤ r0 ∧ r0 < 16) ∧ (0 ≤ r1 ∧ r1 < 16) ∧ (0 ≤ r2 ∧ r2 < 16) ∧ (0 ≤ r3 ∧ r3 < 16)) ∧ apL 4 N [] = wd4 (ltr r3) (ltr r2) (ltr r1) (ltr r0) := by
  unfold plR sixB at h
  simp only [frI_eq, Bool.and_eq_true, decide_eq_true_eq] at h
  obtain ⟨⟨⟨⟨h1, h2⟩, h3⟩, h4⟩, h5⟩ := h
  exact ⟨⟨h1, h2, h3, h4⟩, h5⟩
theorem plC_ok {S0 S1 S2 m0 n0 m1 n1 m2 n2 : Int} {p : Row4 × Row4} (h : plC S0 S1 S2 m0 n0 m1 n1 m2 n2 p = true) : PlainOK S0 S1 S2 m0 n0 m1 n1 m2 n2 p := by
  unfold plC at h
  simp only [frI_eq, Bool.and_eq_true, decide_eq_true_eq] at h
  obtain ⟨⟨⟨⟨⟨⟨⟨⟨⟨h1, h0⟩, h2⟩, h3⟩, h4⟩, h5⟩, h6⟩, h7⟩, h8⟩, h9⟩ := h
  obtain ⟨⟨r0, r1, r2, r3⟩, e1⟩ := plR_ok h8
  obtain ⟨⟨i0, i1, i2, i3⟩, e2⟩ := plR_ok h9
  exact ⟨h1, h0, h2, h3, _, _, rfl, rfl, ⟨h4, h5⟩, ⟨h6, h7⟩, e1, e2, r0, r1, r2, r3, i0, i1, i2, i3⟩
noncomputable def spn (x y : Int) : Int := 2 ^ (if x + 4 * y < 0 then -(x + 4 * y) else x + 4 * y).toNat - 1
noncomputable def plM (x y a b c d : Int) {α : Type} (k : Int → Int → α) : α := frI (-c) fun c => frI (-d) fun d => match wgF x y a b c d with
  | (m, n) => frI m fun m => frI n fun n => k m n
noncomputable def plW (x0 y0 x1 y1 x2 y2 a b c d e f : Int) : Bool :=
  frI (spn a b) fun S0 => frI (spn c d) fun S1 => frI (spn e f) fun S2 =>
  plM x0 y0 a b e f fun m0 n0 => plM x1 y1 c d a b fun m1 n1 => plM x2 y2 e f c d fun m2 n2 => plC S0 S1 S2 m0 n0 m1 n1 m2 n2 (painted x0 y0 x1 y1 x2 y2)
noncomputable def lawB (x0 y0 x1 y1 x2 y2 : Int) : Bool :=
  frI (edF (x1 - x0) (y1 - y0)).1 fun a => frI (edF (x1 - x0) (y1 - y0)).2 fun b => frI (edF (x2 - x1) (y2 - y1)).1 fun c => frI (edF (x2 - x1) (y2 - y1)).2 fun d => frI (edF (x0 - x2) (y0 - y2)).1 fun e => frI (edF (x0 - x2) (y0 - y2)).2 fun f => plW x0 y0 x1 y1 x2 y2 a b c d e f
theorem law_ok {x0 y0 x1 y1 x2 y2 a b c d e f m0 n0 m1 n1 m2 n2 : Int} (h : lawB x0 y0 x1 y1 x2 y2 = true) (he0 : edF (x1 - x0) (y1 - y0) = (a, b)) (he1 : edF (x2 - x1) (y2 - y1) = (c, d)) (he2 : edF (x0 - x2) (y0 - y2) = (e, f))
    (hw0 : wgF x0 y0 a b (-e) (-f) = (m0, n0)) (hw1 : wgF x1 y1 c d (-a) (-b) = (m1, n1)) (hw2 : wgF x2 y2 e f (-c) (-d) = (m2, n2)) : PlainOK (spn a b) (spn c d) (spn e f) m0 n0 m1 n1 m2 n2 (painted x0 y0 x1 y1 x2 y2) := by
  unfold lawB at h
  simp only [frI_eq, he0, he1, he2] at h
  unfold plW plM at h
  simp only [frI_eq, hw0, hw1, hw2] at h
  exact plC_ok h
theorem law_00 : ∀ a b c d : Fin 4, 0 < crs 0 0 (a.val : Int) (b.val : Int) (c.val : Int) (d.val : Int) → lawB 0 0 (a.val : Int) (b.val : Int) (c.val : Int) (d.val : Int) = true := by decide +kernel
theorem law_01 : ∀ a b c d : Fin 4, 0 < crs 0 1 (a.val : Int) (b.val : Int) (c.val : Int) (d.val : Int) → lawB 0 1 (a.val : Int) (b.val : Int) (c.val : Int) (d.val : Int) = true := by decide +kernel
theorem law_02 : ∀ a b c d : Fin 4, 0 < crs 0 2 (a.val : Int) (b.val : Int) (c.val : Int) (d.val : Int) → lawB 0 2 (a.val : Int) (b.val : Int) (c.val : Int) (d.val : Int) = true := by decide +kernel
theorem law_03 : ∀ a b c d : Fin 4, 0 < crs 0 3 (a.val : Int) (b.val : Int) (c.val : Int) (d.val : Int) → lawB 0 3 (a.val : Int) (b.val : Int) (c.val : Int) (d.val : Int) = true := by decide +kernel
theorem law_10 : ∀ a b c d : Fin 4, 0 < crs 1 0 (a.val : Int) (b.val : Int) (c.val : Int) (d.val : Int) → lawB 1 0 (a.val : Int) (b.val : Int) (c.val : Int) (d.val : Int) = true := by decide +kernel
theorem law_11 : ∀ a b c d : Fin 4, 0 < crs 1 1 (a.val : Int) (b.val : Int) (c.val : Int) (d.val : Int) → lawB 1 1 (a.val : Int) (b.val : Int) (c.val : Int) (d.val : Int) = true := by decide +kernel
theorem law_12 : ∀ a b c d : Fin 4, 0 < crs 1 2 (a.val : Int) (b.val : Int) (c.val : Int) (d.val : Int) → lawB 1 2 (a.val : Int) (b.val : Int) (c.val : Int) (d.val : Int) = true := by decide +kernel
theorem law_13 : ∀ a b c d : Fin 4, 0 < crs 1 3 (a.val : Int) (b.val : Int) (c.val : Int) (d.val : Int) → lawB 1 3 (a.val : Int) (b.val : Int) (c.val : Int) (d.val : Int) = true := by decide +kernel
theorem law_20 : ∀ a b c d : Fin 4, 0 < crs 2 0 (a.val : Int) (b.val : Int) (c.val : Int) (d.val : Int) → lawB 2 0 (a.val : Int) (b.val : Int) (c.val : Int) (d.val : Int) = true := by decide +kernel
theorem law_21 : ∀ a b c d : Fin 4, 0 < crs 2 1 (a.val : Int) (b.val : Int) (c.val : Int) (d.val : Int) → lawB 2 1 (a.val : Int) (b.val : Int) (c.val : Int) (d.val : Int) = true := by decide +kernel
theorem law_22 : ∀ a b c d : Fin 4, 0 < crs 2 2 (a.val : Int) (b.val : Int) (c.val : Int) (d.val : Int) → lawB 2 2 (a.val : Int) (b.val : Int) (c.val : Int) (d.val : Int) = true := by decide +kernel
theorem law_23 : ∀ a b c d : Fin 4, 0 < crs 2 3 (a.val : Int) (b.val : Int) (c.val : Int) (d.val : Int) → lawB 2 3 (a.val : Int) (b.val : Int) (c.val : Int) (d.val : Int) = true := by decide +kernel
theorem law_30 : ∀ a b c d : Fin 4, 0 < crs 3 0 (a.val : Int) (b.val : Int) (c.val : Int) (d.val : Int) → lawB 3 0 (a.val : Int) (b.val : Int) (c.val : Int) (d.val : Int) = true := by decide +kernel
theorem law_31 : ∀ a b c d : Fin 4, 0 < crs 3 1 (a.val : Int) (b.val : Int) (c.val : Int) (d.val : Int) → lawB 3 1 (a.val : Int) (b.val : Int) (c.val : Int) (d.val : Int) = true := by decide +kernel
theorem law_32 : ∀ a b c d : Fin 4, 0 < crs 3 2 (a.val : Int) (b.val : Int) (c.val : Int) (d.val : Int) → lawB 3 2 (a.val : Int) (b.val : Int) (c.val : Int) (d.val : Int) = true := by decide +kernel
theorem law_33 : ∀ a b c d : Fin 4, 0 < crs 3 3 (a.val : Int) (b.val : Int) (c.val : Int) (d.val : Int) → lawB 3 3 (a.val : Int) (b.val : Int) (c.val : Int) (d.val : Int) = true := by decide +kernel
theorem law_all {x0 y0 : Int} (h1 : 0 ≤ x0 ∧ x0 ≤ 3) (h2 : 0 ≤ y0 ∧ y0 ≤ 3) : ∀ a b c d : Fin 4, 0 < crs x0 y0 (a.val : Int) (b.val : Int) (c.val : Int) (d.val : Int) → lawB x0 y0 (a.val : Int) (b.val : Int) (c.val : Int) (d.val : Int) = true := by
  have hx : x0 = 0 ∨ x0 = 1 ∨ x0 = 2 ∨ x0 = 3 := by omega
  have hy : y0 = 0 ∨ y0 = 1 ∨ y0 = 2 ∨ y0 = 3 := by omega
  rcases hx with rfl | rfl | rfl | rfl <;> rcases hy with rfl | rfl | rfl | rfl
  · exact law_00
  · exact law_01
  · exact law_02
  · exact law_03
  · exact law_10
  · exact law_11
  · exact law_12
  · exact law_13
  · exact law_20
  · exact law_21
  · exact law_22
  · exact law_23
  · exact law_30
  · exact law_31
  · exact law_32
  · exact law_33
theorem plain_all {x0 y0 x1 y1 x2 y2 a b c d e f m0 n0 m1 n1 m2 n2 : Int} (h1 : 0 ≤ x0 ∧ x0 ≤ 3) (h2 : 0 ≤ y0 ∧ y0 ≤ 3) (h3 : 0 ≤ x1 ∧ x1 ≤ 3) (h4 : 0 ≤ y1 ∧ y1 ≤ 3) (h5 : 0 ≤ x2 ∧ x2 ≤ 3) (h6 : 0 ≤ y2 ∧ y2 ≤ 3) (hp : 0 < crs x0 y0 x1 y1 x2 y2) (he0 : edF (x1 - x0) (y1 - y0) = (a, b)) (he1 : edF (x2 - x1) (y2 - y1) = (c, d)) (he2 : edF (x0 - x2) (y0 - y2) = (e, f))
    (hw0 : wgF x0 y0 a b (-e) (-f) = (m0, n0)) (hw1 : wgF x1 y1 c d (-a) (-b) = (m1, n1)) (hw2 : wgF x2 y2 e f (-c) (-d) = (m2, n2)) : PlainOK (spn a b) (spn c d) (spn e f) m0 n0 m1 n1 m2 n2 (painted x0 y0 x1 y1 x2 y2) := by
  refine law_ok ?_ he0 he1 he2 hw0 hw1 hw2
  have := law_all h1 h2 ⟨x1.toNat, by omega⟩ ⟨y1.toNat, by omega⟩ ⟨x2.toNat, by omega⟩ ⟨y2.toNat, by omega⟩
  simp only [Int.toNat_of_nonneg h3.1, Int.toNat_of_nonneg h4.1, Int.toNat_of_nonneg h5.1, Int.toNat_of_nonneg h6.1] at this
  exact this hp
end Mine
namespace Mine
local macro_rules | `(tactic| walk_at "storeName") => `(tactic| dsimp only)
local macro_rules | `(tactic| walk_at "exec AugAssign") => `(tactic| dsimp only)
local macro_rules | `(tactic| walk_at "eval BinOp") => `(tactic| dsimp only)
local macro_rules | `(tactic| walk_at "eval Subscript") => `(tactic| dsimp only)
local macro_rules | `(tactic| walk_at "MY none") => `(tactic| fail)
local macro_rules | `(tactic| k_asm) => `(tactic| k_extra "MY asm")
theorem offFour {h₀ h : Heap} {L D a b c e : Addr} {l : List Value} {x0 y0 x1 y1 x2 y2 : Int} {t0 u0 t1 u1 t2 u2 : Tok} {oc : Obj} (N : News h₀ L h [(D, lstOf l), (a, spotOf x0 y0 t0 u0), (b, spotOf x1 y1 t1 u1), (c, spotOf x2 y2 t2 u2), (e, oc)]) (dC : oc.data = .cell none) :
    LCg.Off1 e [(D, oc), (a, oc), (b, oc), (c, oc)] :=
  have key : ∀ p ∈ [(D, lstOf l), (a, spotOf x0 y0 t0 u0), (b, spotOf x1 y1 t1 u1), (c, spotOf x2 y2 t2 u2), (e, oc)], p.2.data ≠ oc.data → @Ne Nat p.1 e := fun p hp hd => off_data N (by simp) hp hd
  ⟨key (D, lstOf l) (by simp) (by rw [dC]; exact fun q => nomatch q), key (a, spotOf x0 y0 t0 u0) (by simp) (by rw [dC]; exact fun q => nomatch q), key (b, spotOf x1 y1 t1 u1) (by simp) (by rw [dC]; exact fun q => nomatch q), key (c, spotOf x2 y2 t2 u2) (by simp) (by rw [dC]; exact fun q => nomatch q), trivial⟩
theorem span_a : ∀ k : Fin 16, Builtin.Int.intBits (2 ^ k.val - 1) ≤ 64 ∧ (1 : Int) ≤ 2 ^ k.val := by decide +kernel
theorem span_of {dx dy x y : Int} (h : edF dx dy = (x, y)) (h1 : -3 ≤ dx) (h2 : dx ≤ 3) (h3 : -3 ≤ dy) (h4 : dy ≤ 3) : Builtin.Int.intBits (2 ^ (if x + 4 * y < 0 then -(x + 4 * y) else x + 4 * y).toNat - 1) ≤ 64 := by
  have b := edF_bd h1 h2 h3 h4
  rw [h] at b
  have hb : (if x + 4 * y < 0 then -(x + 4 * y) else x + 4 * y).toNat < 16 := by
    have b1 : -3 ≤ x := b.1
    have b2 : x ≤ 3 := b.2.1
    have b3 : -3 ≤ y := b.2.2.1
    have b4 : y ≤ 3 := b.2.2.2
    split <;> omega
  exact (span_a ⟨_, hb⟩).1
section
variable {prog : Program} {w : World} {A : Around} {E : Value → Shared → Prop} {s : Shared} {Q : Value → Shared → Prop}
theorem mod_known {a b n : Int} {t u : Tok} (hb : b ≠ 0) (e : a.fmod b = n) (h : Q (.int n s.toks) { s with toks := s.toks + 1 }) : wpAny (model prog w) A (binaryOp .Mod (.int a t) (.int b u)) Q E s := mod_int hb (by rw [e]; exact h)
theorem fdivN {a b n : Int} {t u : Tok} (hb : b ≠ 0) (hl : b.natAbs.log2 < 9000) (e : a.fdiv b = n) (h : Q (.int n s.toks) { s with toks := s.toks + 1 }) : wpAny (model prog w) A (binaryOp .FloorDiv (.int a t) (.int b u)) Q E s := floordiv_int hb (by rw [e]; exact h) (.inl (PyProof.noPylong_of_log2 hl))
theorem eq_same {b : Array UInt8} {t u : Tok} (h : Q (.bool true) s) : wpAny (model prog w) A (compareOp .Eq (.bytes b t) (.bytes b u)) Q E s := by
  refine eq_bytes ?_
  rw [beq_self_eq_true]
  exact h
end
theorem c_apk (w : World) (mean : ExcName → Option Value) (mg mb : Str → Option Value) (news : List (Addr × Obj)) (x : Int) (W : List UInt8) (t : Tok) (hx : 0 ≤ x ∧ x < 65536) (e : apL 4 x [] = W) : Ctr w mean mg mb 57 1 news [.int x t] (fun v tl => tl = [] ∧ ∃ t, v = .bytes W.toArray t) := by
  have := c_ap w mean mg mb news x t hx
  rw [e] at this
  exact this
local macro_rules | `(tactic| walk_at "binaryOp Mod int int") => `(tactic| (k_extra "MY Lw1"))
local macro_rules | `(tactic| walk_at "binaryOp FloorDiv int int") => `(tactic| (k_extra "MY Lw2"))
local macro_rules | `(tactic| walk_at "compareOp Eq bytes bytes") => `(tactic| (with_reducible refine eq_same ?_))
local macro_rules | `(tactic| k_ne) => `(tactic| k_extra "MY ne")
local macro_rules | `(tactic| walk_at "CompRest") => `(tactic| (with_unfolding_all first
  | (refine LCg.CompRest.succ ?_; intro v' I' oI' C' oC' D' m' h' tk' E' hv' hC' hx' F' N' off' ne'; clear ne'; (first | lcg_open hv' | (obtain ⟨t9', hv9'⟩ := hv'; subst hv9')))
  | refine LCg.CompRest.zero ?_))
local macro_rules | `(tactic| walk_at "FinE") => `(tactic| ((unfold LCg.FinE); intro D' h' tk' F' N' o1'; (try simp only [List.nil_append, List.cons_append] at N'); (try dsimp only)))
theorem compEnd_one {h₀ : Heap} {L I C D : Addr} {m : Str → Option Value} {s₁ : Shared} {oI oC oD : Obj} {S : List (Addr × Obj) → Prop} {rest : Value → List (Addr × Obj) → Prop} {y : Value} {h' : Heap} {tk : Nat} {e : Addr} {oe : Obj} {left : List (Addr × Obj)}
    (F : Fr h₀ L h' m) (N : News h₀ L h' ((e, oe) :: (I, oI) :: (C, oC) :: (D, oD) :: left)) (o : ∀ q ∈ (I, oI) :: (C, oC) :: (D, oD) :: left, q.1 < e) (off : LCg.Off3 I C D left) (hS : S ((e, oe) :: left)) (r : rest y ((e, oe) :: left)) :
    LCg.CompEnd h₀ L m s₁ I oI C oC D oD S rest y { s₁ with heap := h', toks := tk } := by
  refine LCg.CompEnd.intro F N ((e, oe) :: left) (fun p hp => ?_) ⟨⟨Ne.symm (Nat.ne_of_lt (o (I, oI) (by simp))), Ne.symm (Nat.ne_of_lt (o (C, oC) (by simp))), Ne.symm (Nat.ne_of_lt (o (D, oD) (by simp)))⟩, off⟩ hS r
  simp only [List.mem_cons] at hp ⊢
  rcases hp with h | h | h | h | h
  · exact .inr (.inl h)
  · exact .inr (.inr (.inl h))
  · exact .inr (.inr (.inr (.inl h)))
  · exact .inl h
  · exact .inr (.inr (.inr (.inr h)))
local macro_rules | `(tactic| walk_at "CompEnd") => `(tactic| (k_extra "MY Lw3"))
local macro_rules | `(tactic| walk_at "CompEnd") => `(tactic| (k_extra "MY Lw4"))
local macro_rules | `(tactic| walk_at "eval ListComp") => `(tactic| (k_extra "MY Lw5"))
local macro_rules | `(tactic| walk_at "eval ListComp") => `(tactic| (k_extra "MY Lw6"))
local macro_rules | `(tactic| walk_at "CompSrc") => `(tactic| k_extra "MY Lw31")
local macro_rules | `(tactic| walk_at "CompSrc") => `(tactic| k_extra "MY Lw32")
local macro_rules | `(tactic| walk_at "subscriptTail Name Name ref int") => `(tactic| (k_extra "MY Lw7"))
local macro_rules | `(tactic| walk_at "subscriptTail Name Constant ref int") => `(tactic| (k_extra "MY Lw8"))
local macro_rules | `(tactic| walk_at "subscriptTail Name BinOp ref int") => `(tactic| (k_extra "MY Lw9"))
local macro_rules | `(tactic| walk_at "call ref") => `(tactic| (k_extra "MY Lw10"; k_extra "MY Lw61"))
local macro_rules | `(tactic| walk_at "call ref") => `(tactic| (k_extra "MY Lw11"; k_extra "MY Lw62"))
local macro_rules | `(tactic| walk_at "call ref") => `(tactic| (k_extra "MY Lw12"; k_extra "MY Lw63"))
local macro_rules | `(tactic| walk_at "call ref") => `(tactic| (k_extra "MY Lw13"; k_extra "MY Lw64"))
local macro_rules | `(tactic| walk_at "call ref") => `(tactic| (k_extra "MY Lw14"; k_extra "MY Lw65"))
set_option maxHeartbeats 2000000 in
theorem law_holds : PySem.Challenge.rw_tp0006_01.Holds := hd (by
  w_top off
  k_with_none
  k_with "MY Lw61" => (intro v' tl' h' tk' hres' F' N'; (refine Exists.elim hres'.2 ?_); intro t' hv'; (have htl' := hres'.1); subst hv' htl'; clear hres'; (simp only [List.cons_append, List.nil_append] at N'); k_extra "MY tail")
  k_with "MY Lw62" => (intro v' tl' h' tk' hres' F' N' ho'; (refine Exists.elim hres'.2 ?_); intro t' hv'; (have htl' := hres'.1); subst hv' htl'; clear hres' ho'; (simp only [List.cons_append, List.nil_append] at N'); k_extra "MY tail")
  k_with "MY Lw63" => (intro v' tl' h' tk' hres' F' N'; (obtain ⟨D', R', I', k0', k1', k2', k3', k4', k5', k6', k7', hv', ht'⟩ := hres'); subst hv' ht'; (simp only [List.cons_append, List.nil_append] at N'); k_extra "MY tail")
  k_with "MY Lw64" => (intro v' tl' h' tk' hres' F' N'; (obtain ⟨D', me', tu', t1', t2', he', hv', ht'⟩ := hres'); subst hv' ht'; (simp only [List.cons_append, List.nil_append] at N'); k_extra "MY tail")
  k_with "MY Lw65" => (intro v' tl' h' tk' hres' F' N' ho'; (obtain ⟨D', ex', ey', t', u', hv', ht', he', q1', q2', q3', q4'⟩ := hres'); subst hv' ht'; (replace ho' := ordOf' ho'); (simp only [List.cons_append, List.nil_append] at N'); k_extra "MY tail")
  k_with "MY asm" => (first | with_reducible assumption | assumption | exact nTail (by assumption) | exact nTail (nTail (by assumption)))
  k_with "MY ne" => (refine neN ?_; (try dsimp only); first | exact off1_ne (by with_reducible assumption) (by k_mem) | exact Ne.symm (off1_ne (by with_reducible assumption) (by k_mem)) | omega)
  k_with "MY Lw31" => (k_here; k_dflt (refine LCg.CompSrc.range (by rfl) (by k_asm) (by k_asm) (by assumption) (by first | decide | rfl) (by first | rfl | decide) (by first | size_fits | exact Nat.le_of_ble_eq_true rfl) ?_; intro _; lcg_lit))
  k_with "MY Lw32" => (k_here; k_dflt (refine LCg.CompSrc.ledger (by rfl) (by k_asm) (by k_asm) (by k_mem) (by first | size_fits | exact Nat.le_of_ble_eq_true rfl) ?_; intro _; lcg_lit))
  k_with "MY tail" => ((try k_unmd) ; (try (k_unfold; (try dsimp only))) ; (try dsimp only) ; (try k_fold))
  k_with "MY Lw1" => (with_reducible refine mod_known (by assumption) (by assumption) ?_)
  k_with "MY Lw2" => (with_reducible refine fdivN (by assumption) (by assumption) (by assumption) ?_)
  k_with "MY Lw3" => (k_here; (refine' compEnd_one ?F ?N ?o ?oo ?S ?_); (case F => assumption); (case N => assumption); (case o => assumption); (case oo => with_reducible assumption); (case S => lcg_src))
  k_with "MY Lw4" => (k_here; (refine' compEnd_same ?F ?N ?o ?S ?_); (case F => assumption); (case N => with_reducible assumption); (case o => with_reducible assumption); (case S => lcg_src))
  k_with "MY Lw5" => (k_here; lcf_look; k_dflt (refine LCg.ListComp_U (F₀ := by k_asm) (by with_unfolding_all rfl) (by decide) (by rfl) (by decide) (by rfl) ?_); k_dflt lcg_toSrc)
  k_with "MY Lw6" => (k_here; lcg_look; k_dflt (refine LCg.ListComp_U (F₀ := by k_asm) (by with_unfolding_all rfl) (by decide) (by rfl) (by decide) (by rfl) ?_); k_dflt lcg_toSrc)
  k_with "MY Lw7" => (k_here; (with_reducible show wpAny _ _ (subscriptTail (Expr.Name _ _) _ (Value.ref _) (Value.int _ _)) _ _ _); k_dflt (refine' sub_list ?s1 ?s2 ?s3 ?s4 ?s5 ?s6 ?_; (case s1 => k_asm); (case s2 => k_mem); (case s3 => rfl); (case s4 => decide); (case s5 => decide); (case s6 => rfl); k_whole))
  k_with "MY Lw8" => (k_here; (with_reducible show wpAny _ _ (subscriptTail (Expr.Name _ _) _ (Value.ref _) (Value.int _ _)) _ _ _); k_dflt (refine' sub_list ?s1 ?s2 ?s3 ?s4 ?s5 ?s6 ?_; (case s1 => k_asm); (case s2 => k_mem); (case s3 => rfl); (case s4 => decide); (case s5 => decide); (case s6 => rfl); k_whole))
  k_with "MY Lw9" => (k_here; (with_reducible show wpAny _ _ (subscriptTail (Expr.Name _ _) _ (Value.ref _) (Value.int _ _)) _ _ _); k_dflt (refine' sub_list ?s1 ?s2 ?s3 ?s4 ?s5 ?s6 ?_; (case s1 => k_asm); (case s2 => k_mem); (case s3 => rfl); (case s4 => decide); (case s5 => decide); (case s6 => rfl); k_whole))
  k_with "MY Lw10" => (k_here; k_dflt (refine' CtrN.use (c_word _ _ _ _ _ _ _ _ _ _ _ _ _ ?b1 ?b2 ?b3 ?b4) ?hs _ _ _ _ _ _ _ _ _ _ _ _ _ _ _ _ _ ?k1 ?k2 ?k3 ?k4 ?k5 ?kK ?kd ?ku ?kp ?_; (case k4 => k_asm); (case hs => lcg_sub); (case k1 => k_asm); (case k2 => k_asm); (case k3 => k_asm); (case k5 => k_asm); (case kK => first | exact rfl | assumption); (case kd => ktr_room); (case ku => ktr_units); (case kp => exact True.intro); (case b1 => with_reducible assumption); (case b2 => with_reducible assumption); (case b3 => with_reducible assumption); (case b4 => with_reducible assumption)))
  k_with "MY Lw11" => (k_here; k_dflt (refine' (c_apk _ _ _ _ _ _ _ _ ?b1 ?b2) _ _ _ _ _ _ _ _ _ _ _ _ _ _ _ _ _ ?k1 ?k2 ?k3 ?k4 ?k5 ?kK ?kd ?ku ?_; (case k4 => k_asm); (case k1 => k_asm); (case k2 => k_asm); (case k3 => k_asm); (case k5 => k_asm); (case kK => first | exact rfl | assumption); (case kd => ktr_room); (case ku => ktr_units); (case b1 => with_reducible assumption); (case b2 => with_reducible assumption)))
  k_with "MY Lw12" => (k_here; k_dflt (refine' CtrN.use (c_painted _ _ _ _ _ _ _ _ _ _ _ _ _ _ _ _ _ _ _ _ ?b1 ?b2 ?b3 ?b4 ?b5 ?b6 ?bp) ?hs _ _ _ _ _ _ _ _ _ _ _ _ _ _ _ _ _ ?k1 ?k2 ?k3 ?k4 ?k5 ?kK ?kd ?ku ?kp ?_; (case k4 => k_asm); (case hs => lcg_sub); (case k1 => k_asm); (case k2 => k_asm); (case k3 => k_asm); (case k5 => k_asm); (case kK => first | exact rfl | assumption); (case kd => ktr_room); (case ku => ktr_units); (case kp => exact True.intro); (case b1 => (constructor <;> omega)); (case b2 => (constructor <;> omega)); (case b3 => (constructor <;> omega)); (case b4 => (constructor <;> omega)); (case b5 => (constructor <;> omega)); (case b6 => (constructor <;> omega)); (case bp => assumption)))
  k_with "MY Lw13" => (k_here; k_dflt (refine' CtrN.use (c_wedge _ _ _ _ _ _ _ _ _ _ _ _ _ _ _ _ _ _ _ ?b1 ?b2 ?b3 ?b4 ?b5 ?b6) ?hs _ _ _ _ _ _ _ _ _ _ _ _ _ _ _ _ _ ?k1 ?k2 ?k3 ?k4 ?k5 ?kK ?kd ?ku ?kp ?_; (case k4 => k_asm); (case hs => lcg_sub); (case k1 => k_asm); (case k2 => k_asm); (case k3 => k_asm); (case k5 => k_asm); (case kK => first | exact rfl | assumption); (case kd => ktr_room); (case ku => ktr_units); (case kp => exact True.intro); (case b1 => (constructor <;> omega)); (case b2 => (constructor <;> omega)); (case b3 => (constructor <;> omega)); (case b4 => (constructor <;> omega)); (case b5 => (constructor <;> omega)); (case b6 => (constructor <;> omega))))
  k_with "MY Lw14" => (k_here; k_dflt (refine' CtrO.use (c_edgeq _ _ _ _ _ _ _ _ _ _ _ _ _ _ ?b1 ?b2 ?b3 ?b4) ?hs _ _ _ _ _ _ _ _ _ _ _ _ _ _ _ _ _ ?k1 ?k2 ?k3 ?k4 ?k5 ?kK ?kd ?ku ?kp ?_; (case k4 => k_asm); (case hs => lcg_sub); (case k1 => k_asm); (case k2 => k_asm); (case k3 => k_asm); (case k5 => k_asm); (case kK => first | exact rfl | assumption); (case kd => ktr_room); (case ku => ktr_units); (case kp => exact True.intro); (case b1 => (constructor <;> omega)); (case b2 => (constructor <;> omega)); (case b3 => (constructor <;> omega)); (case b4 => (constructor <;> omega))))
  k_go0
  all_goals try k_fold
  k_with "call ref" => (refine Halt.out ?_)
  k_steps
  unfold Halt
  k_with_none
  k_with "MY Lw61" => (intro v' tl' h' tk' hres' F' N'; (refine Exists.elim hres'.2 ?_); intro t' hv'; (have htl' := hres'.1); subst hv' htl'; clear hres'; (simp only [List.cons_append, List.nil_append] at N'); k_extra "MY tail")
  k_with "MY Lw62" => (intro v' tl' h' tk' hres' F' N' ho'; (refine Exists.elim hres'.2 ?_); intro t' hv'; (have htl' := hres'.1); subst hv' htl'; clear hres' ho'; (simp only [List.cons_append, List.nil_append] at N'); k_extra "MY tail")
  k_with "MY Lw63" => (intro v' tl' h' tk' hres' F' N'; (obtain ⟨D', R', I', k0', k1', k2', k3', k4', k5', k6', k7', hv', ht'⟩ := hres'); subst hv' ht'; (simp only [List.cons_append, List.nil_append] at N'); k_extra "MY tail")
  k_with "MY Lw64" => (intro v' tl' h' tk' hres' F' N'; (obtain ⟨D', me', tu', t1', t2', he', hv', ht'⟩ := hres'); subst hv' ht'; (simp only [List.cons_append, List.nil_append] at N'); k_extra "MY tail")
  k_with "MY Lw65" => (intro v' tl' h' tk' hres' F' N' ho'; (obtain ⟨D', ex', ey', t', u', hv', ht', he', q1', q2', q3', q4'⟩ := hres'); subst hv' ht'; (replace ho' := ordOf' ho'); (simp only [List.cons_append, List.nil_append] at N'); k_extra "MY tail")
  k_with "MY asm" => (first | with_reducible assumption | assumption | exact nTail (by assumption) | exact nTail (nTail (by assumption)))
  k_with "MY ne" => (refine neN ?_; (try dsimp only); first | exact off1_ne (by with_reducible assumption) (by k_mem) | exact Ne.symm (off1_ne (by with_reducible assumption) (by k_mem)) | omega)
  k_with "MY Lw31" => (k_here; k_dflt (refine LCg.CompSrc.range (by rfl) (by k_asm) (by k_asm) (by assumption) (by first | decide | rfl) (by first | rfl | decide) (by first | size_fits | exact Nat.le_of_ble_eq_true rfl) ?_; intro _; lcg_lit))
  k_with "MY Lw32" => (k_here; k_dflt (refine LCg.CompSrc.ledger (by rfl) (by k_asm) (by k_asm) (by k_mem) (by first | size_fits | exact Nat.le_of_ble_eq_true rfl) ?_; intro _; lcg_lit))
  k_with "MY tail" => ((try k_unmd) ; (try (k_unfold; (try dsimp only))) ; (try dsimp only) ; (try k_fold))
  k_with "MY Lw1" => (with_reducible refine mod_known (by assumption) (by assumption) ?_)
  k_with "MY Lw2" => (with_reducible refine fdivN (by assumption) (by assumption) (by assumption) ?_)
  k_with "MY Lw3" => (k_here; (refine' compEnd_one ?F ?N ?o ?oo ?S ?_); (case F => assumption); (case N => assumption); (case o => assumption); (case oo => with_reducible assumption); (case S => lcg_src))
  k_with "MY Lw4" => (k_here; (refine' compEnd_same ?F ?N ?o ?S ?_); (case F => assumption); (case N => with_reducible assumption); (case o => with_reducible assumption); (case S => lcg_src))
  k_with "MY Lw5" => (k_here; lcf_look; k_dflt (refine LCg.ListComp_U (F₀ := by k_asm) (by with_unfolding_all rfl) (by decide) (by rfl) (by decide) (by rfl) ?_); k_dflt lcg_toSrc)
  k_with "MY Lw6" => (k_here; lcg_look; k_dflt (refine LCg.ListComp_U (F₀ := by k_asm) (by with_unfolding_all rfl) (by decide) (by rfl) (by decide) (by rfl) ?_); k_dflt lcg_toSrc)
  k_with "MY Lw7" => (k_here; (with_reducible show wpAny _ _ (subscriptTail (Expr.Name _ _) _ (Value.ref _) (Value.int _ _)) _ _ _); k_dflt (refine' sub_list ?s1 ?s2 ?s3 ?s4 ?s5 ?s6 ?_; (case s1 => k_asm); (case s2 => k_mem); (case s3 => rfl); (case s4 => decide); (case s5 => decide); (case s6 => rfl); k_whole))
  k_with "MY Lw8" => (k_here; (with_reducible show wpAny _ _ (subscriptTail (Expr.Name _ _) _ (Value.ref _) (Value.int _ _)) _ _ _); k_dflt (refine' sub_list ?s1 ?s2 ?s3 ?s4 ?s5 ?s6 ?_; (case s1 => k_asm); (case s2 => k_mem); (case s3 => rfl); (case s4 => decide); (case s5 => decide); (case s6 => rfl); k_whole))
  k_with "MY Lw9" => (k_here; (with_reducible show wpAny _ _ (subscriptTail (Expr.Name _ _) _ (Value.ref _) (Value.int _ _)) _ _ _); k_dflt (refine' sub_list ?s1 ?s2 ?s3 ?s4 ?s5 ?s6 ?_; (case s1 => k_asm); (case s2 => k_mem); (case s3 => rfl); (case s4 => decide); (case s5 => decide); (case s6 => rfl); k_whole))
  k_with "MY Lw10" => (k_here; k_dflt (refine' CtrN.use (c_word _ _ _ _ _ _ _ _ _ _ _ _ _ ?b1 ?b2 ?b3 ?b4) ?hs _ _ _ _ _ _ _ _ _ _ _ _ _ _ _ _ _ ?k1 ?k2 ?k3 ?k4 ?k5 ?kK ?kd ?ku ?kp ?_; (case k4 => k_asm); (case hs => lcg_sub); (case k1 => k_asm); (case k2 => k_asm); (case k3 => k_asm); (case k5 => k_asm); (case kK => first | exact rfl | assumption); (case kd => ktr_room); (case ku => ktr_units); (case kp => exact True.intro); (case b1 => with_reducible assumption); (case b2 => with_reducible assumption); (case b3 => with_reducible assumption); (case b4 => with_reducible assumption)))
  k_with "MY Lw11" => (k_here; k_dflt (refine' (c_apk _ _ _ _ _ _ _ _ ?b1 ?b2) _ _ _ _ _ _ _ _ _ _ _ _ _ _ _ _ _ ?k1 ?k2 ?k3 ?k4 ?k5 ?kK ?kd ?ku ?_; (case k4 => k_asm); (case k1 => k_asm); (case k2 => k_asm); (case k3 => k_asm); (case k5 => k_asm); (case kK => first | exact rfl | assumption); (case kd => ktr_room); (case ku => ktr_units); (case b1 => with_reducible assumption); (case b2 => with_reducible assumption)))
  k_with "MY Lw12" => (k_here; k_dflt (refine' CtrN.use (c_painted _ _ _ _ _ _ _ _ _ _ _ _ _ _ _ _ _ _ _ _ ?b1 ?b2 ?b3 ?b4 ?b5 ?b6 ?bp) ?hs _ _ _ _ _ _ _ _ _ _ _ _ _ _ _ _ _ ?k1 ?k2 ?k3 ?k4 ?k5 ?kK ?kd ?ku ?kp ?_; (case k4 => k_asm); (case hs => lcg_sub); (case k1 => k_asm); (case k2 => k_asm); (case k3 => k_asm); (case k5 => k_asm); (case kK => first | exact rfl | assumption); (case kd => ktr_room); (case ku => ktr_units); (case kp => exact True.intro); (case b1 => (constructor <;> omega)); (case b2 => (constructor <;> omega)); (case b3 => (constructor <;> omega)); (case b4 => (constructor <;> omega)); (case b5 => (constructor <;> omega)); (case b6 => (constructor <;> omega)); (case bp => assumption)))
  k_with "MY Lw13" => (k_here; k_dflt (refine' CtrN.use (c_wedge _ _ _ _ _ _ _ _ _ _ _ _ _ _ _ _ _ _ _ ?b1 ?b2 ?b3 ?b4 ?b5 ?b6) ?hs _ _ _ _ _ _ _ _ _ _ _ _ _ _ _ _ _ ?k1 ?k2 ?k3 ?k4 ?k5 ?kK ?kd ?ku ?kp ?_; (case k4 => k_asm); (case hs => lcg_sub); (case k1 => k_asm); (case k2 => k_asm); (case k3 => k_asm); (case k5 => k_asm); (case kK => first | exact rfl | assumption); (case kd => ktr_room); (case ku => ktr_units); (case kp => exact True.intro); (case b1 => (constructor <;> omega)); (case b2 => (constructor <;> omega)); (case b3 => (constructor <;> omega)); (case b4 => (constructor <;> omega)); (case b5 => (constructor <;> omega)); (case b6 => (constructor <;> omega))))
  k_with "MY Lw14" => (k_here; k_dflt (refine' CtrO.use (c_edgeq _ _ _ _ _ _ _ _ _ _ _ _ _ _ ?b1 ?b2 ?b3 ?b4) ?hs _ _ _ _ _ _ _ _ _ _ _ _ _ _ _ _ _ ?k1 ?k2 ?k3 ?k4 ?k5 ?kK ?kd ?ku ?kp ?_; (case k4 => k_asm); (case hs => lcg_sub); (case k1 => k_asm); (case k2 => k_asm); (case k3 => k_asm); (case k5 => k_asm); (case kK => first | exact rfl | assumption); (case kd => ktr_room); (case ku => ktr_units); (case kp => exact True.intro); (case b1 => (constructor <;> omega)); (case b2 => (constructor <;> omega)); (case b3 => (constructor <;> omega)); (case b4 => (constructor <;> omega))))
  rename_i h1 tk1 F0 oc dC N0 X0
  k_dflt (refine' CtrN.use (c_cor _ _ _ _ _ _ _ ?hI ?hn) (led := [(_, oc)]) (fun p h => nomatch h) _ _ _ _ _ _ _ _ _ _ _ _ _ _ _ _ _ ?k1 ?k2 ?k3 ?k4 ?k5 ?kK ?kd ?ku ?kp ?_)
  (case k1 => k_asm)
  (case k2 => k_asm)
  (case k3 => k_asm)
  (case k4 => k_asm)
  (case k5 => k_asm)
  (case kK => first | exact rfl | assumption)
  (case kd => ktr_room)
  (case ku => ktr_units)
  (case kp => assumption)
  (case hI => assumption)
  (case hn => omega)
  rintro v' tl' h' tk' ⟨D, a, b, c, x0, y0, x1, y1, x2, y2, t0, u0, t1, u1, t2, u2, rfl, rfl, g1, g2, g3, g4, g5, g6, gp⟩ F' N'
  obtain ⟨b1, b2⟩ := g1
  obtain ⟨b3, b4⟩ := g2
  obtain ⟨b5, b6⟩ := g3
  obtain ⟨b7, b8⟩ := g4
  obtain ⟨b9, b10⟩ := g5
  obtain ⟨b11, b12⟩ := g6
  simp only [List.cons_append, List.nil_append] at N'
  have dC' : oc.data = .cell none := dC
  clear dC X0 F0 N0
  have oX := offFour N' dC'
  k_with "call builtin:abs" => (refine Halt.out ?_)
  k_steps
  unfold Halt
  k_with_none
  k_with "MY Lw61" => (intro v' tl' h' tk' hres' F' N'; (refine Exists.elim hres'.2 ?_); intro t' hv'; (have htl' := hres'.1); subst hv' htl'; clear hres'; (simp only [List.cons_append, List.nil_append] at N'); k_extra "MY tail")
  k_with "MY Lw62" => (intro v' tl' h' tk' hres' F' N' ho'; (refine Exists.elim hres'.2 ?_); intro t' hv'; (have htl' := hres'.1); subst hv' htl'; clear hres' ho'; (simp only [List.cons_append, List.nil_append] at N'); k_extra "MY tail")
  k_with "MY Lw63" => (intro v' tl' h' tk' hres' F' N'; (obtain ⟨D', R', I', k0', k1', k2', k3', k4', k5', k6', k7', hv', ht'⟩ := hres'); subst hv' ht'; (simp only [List.cons_append, List.nil_append] at N'); k_extra "MY tail")
  k_with "MY Lw64" => (intro v' tl' h' tk' hres' F' N'; (obtain ⟨D', me', tu', t1', t2', he', hv', ht'⟩ := hres'); subst hv' ht'; (simp only [List.cons_append, List.nil_append] at N'); k_extra "MY tail")
  k_with "MY Lw65" => (intro v' tl' h' tk' hres' F' N' ho'; (obtain ⟨D', ex', ey', t', u', hv', ht', he', q1', q2', q3', q4'⟩ := hres'); subst hv' ht'; (replace ho' := ordOf' ho'); (simp only [List.cons_append, List.nil_append] at N'); k_extra "MY tail")
  k_with "MY asm" => (first | with_reducible assumption | assumption | exact nTail (by assumption) | exact nTail (nTail (by assumption)))
  k_with "MY ne" => (refine neN ?_; (try dsimp only); first | exact off1_ne (by with_reducible assumption) (by k_mem) | exact Ne.symm (off1_ne (by with_reducible assumption) (by k_mem)) | omega)
  k_with "MY Lw31" => (k_here; k_dflt (refine LCg.CompSrc.range (by rfl) (by k_asm) (by k_asm) (by assumption) (by first | decide | rfl) (by first | rfl | decide) (by first | size_fits | exact Nat.le_of_ble_eq_true rfl) ?_; intro _; lcg_lit))
  k_with "MY Lw32" => (k_here; k_dflt (refine LCg.CompSrc.ledger (by rfl) (by k_asm) (by k_asm) (by k_mem) (by first | size_fits | exact Nat.le_of_ble_eq_true rfl) ?_; intro _; lcg_lit))
  k_with "MY tail" => ((try k_unmd) ; (try (k_unfold; (try dsimp only))) ; (try dsimp only) ; (try k_fold))
  k_with "MY Lw1" => (with_reducible refine mod_known (by assumption) (by assumption) ?_)
  k_with "MY Lw2" => (with_reducible refine fdivN (by assumption) (by assumption) (by assumption) ?_)
  k_with "MY Lw3" => (k_here; (refine' compEnd_one ?F ?N ?o ?oo ?S ?_); (case F => assumption); (case N => assumption); (case o => assumption); (case oo => with_reducible assumption); (case S => lcg_src))
  k_with "MY Lw4" => (k_here; (refine' compEnd_same ?F ?N ?o ?S ?_); (case F => assumption); (case N => with_reducible assumption); (case o => with_reducible assumption); (case S => lcg_src))
  k_with "MY Lw5" => (k_here; lcf_look; k_dflt (refine LCg.ListComp_U (F₀ := by k_asm) (by with_unfolding_all rfl) (by decide) (by rfl) (by decide) (by rfl) ?_); k_dflt lcg_toSrc)
  k_with "MY Lw6" => (k_here; lcg_look; k_dflt (refine LCg.ListComp_U (F₀ := by k_asm) (by with_unfolding_all rfl) (by decide) (by rfl) (by decide) (by rfl) ?_); k_dflt lcg_toSrc)
  k_with "MY Lw7" => (k_here; (with_reducible show wpAny _ _ (subscriptTail (Expr.Name _ _) _ (Value.ref _) (Value.int _ _)) _ _ _); k_dflt (refine' sub_list ?s1 ?s2 ?s3 ?s4 ?s5 ?s6 ?_; (case s1 => k_asm); (case s2 => k_mem); (case s3 => rfl); (case s4 => decide); (case s5 => decide); (case s6 => rfl); k_whole))
  k_with "MY Lw8" => (k_here; (with_reducible show wpAny _ _ (subscriptTail (Expr.Name _ _) _ (Value.ref _) (Value.int _ _)) _ _ _); k_dflt (refine' sub_list ?s1 ?s2 ?s3 ?s4 ?s5 ?s6 ?_; (case s1 => k_asm); (case s2 => k_mem); (case s3 => rfl); (case s4 => decide); (case s5 => decide); (case s6 => rfl); k_whole))
  k_with "MY Lw9" => (k_here; (with_reducible show wpAny _ _ (subscriptTail (Expr.Name _ _) _ (Value.ref _) (Value.int _ _)) _ _ _); k_dflt (refine' sub_list ?s1 ?s2 ?s3 ?s4 ?s5 ?s6 ?_; (case s1 => k_asm); (case s2 => k_mem); (case s3 => rfl); (case s4 => decide); (case s5 => decide); (case s6 => rfl); k_whole))
  k_with "MY Lw10" => (k_here; k_dflt (refine' CtrN.use (c_word _ _ _ _ _ _ _ _ _ _ _ _ _ ?b1 ?b2 ?b3 ?b4) ?hs _ _ _ _ _ _ _ _ _ _ _ _ _ _ _ _ _ ?k1 ?k2 ?k3 ?k4 ?k5 ?kK ?kd ?ku ?kp ?_; (case k4 => k_asm); (case hs => lcg_sub); (case k1 => k_asm); (case k2 => k_asm); (case k3 => k_asm); (case k5 => k_asm); (case kK => first | exact rfl | assumption); (case kd => ktr_room); (case ku => ktr_units); (case kp => exact True.intro); (case b1 => with_reducible assumption); (case b2 => with_reducible assumption); (case b3 => with_reducible assumption); (case b4 => with_reducible assumption)))
  k_with "MY Lw11" => (k_here; k_dflt (refine' (c_apk _ _ _ _ _ _ _ _ ?b1 ?b2) _ _ _ _ _ _ _ _ _ _ _ _ _ _ _ _ _ ?k1 ?k2 ?k3 ?k4 ?k5 ?kK ?kd ?ku ?_; (case k4 => k_asm); (case k1 => k_asm); (case k2 => k_asm); (case k3 => k_asm); (case k5 => k_asm); (case kK => first | exact rfl | assumption); (case kd => ktr_room); (case ku => ktr_units); (case b1 => with_reducible assumption); (case b2 => with_reducible assumption)))
  k_with "MY Lw12" => (k_here; k_dflt (refine' CtrN.use (c_painted _ _ _ _ _ _ _ _ _ _ _ _ _ _ _ _ _ _ _ _ ?b1 ?b2 ?b3 ?b4 ?b5 ?b6 ?bp) ?hs _ _ _ _ _ _ _ _ _ _ _ _ _ _ _ _ _ ?k1 ?k2 ?k3 ?k4 ?k5 ?kK ?kd ?ku ?kp ?_; (case k4 => k_asm); (case hs => lcg_sub); (case k1 => k_asm); (case k2 => k_asm); (case k3 => k_asm); (case k5 => k_asm); (case kK => first | exact rfl | assumption); (case kd => ktr_room); (case ku => ktr_units); (case kp => exact True.intro); (case b1 => (constructor <;> omega)); (case b2 => (constructor <;> omega)); (case b3 => (constructor <;> omega)); (case b4 => (constructor <;> omega)); (case b5 => (constructor <;> omega)); (case b6 => (constructor <;> omega)); (case bp => assumption)))
  k_with "MY Lw13" => (k_here; k_dflt (refine' CtrN.use (c_wedge _ _ _ _ _ _ _ _ _ _ _ _ _ _ _ _ _ _ _ ?b1 ?b2 ?b3 ?b4 ?b5 ?b6) ?hs _ _ _ _ _ _ _ _ _ _ _ _ _ _ _ _ _ ?k1 ?k2 ?k3 ?k4 ?k5 ?kK ?kd ?ku ?kp ?_; (case k4 => k_asm); (case hs => lcg_sub); (case k1 => k_asm); (case k2 => k_asm); (case k3 => k_asm); (case k5 => k_asm); (case kK => first | exact rfl | assumption); (case kd => ktr_room); (case ku => ktr_units); (case kp => exact True.intro); (case b1 => (constructor <;> omega)); (case b2 => (constructor <;> omega)); (case b3 => (constructor <;> omega)); (case b4 => (constructor <;> omega)); (case b5 => (constructor <;> omega)); (case b6 => (constructor <;> omega))))
  k_with "MY Lw14" => (k_here; k_dflt (refine' CtrO.use (c_edgeq _ _ _ _ _ _ _ _ _ _ _ _ _ _ ?b1 ?b2 ?b3 ?b4) ?hs _ _ _ _ _ _ _ _ _ _ _ _ _ _ _ _ _ ?k1 ?k2 ?k3 ?k4 ?k5 ?kK ?kd ?ku ?kp ?_; (case k4 => k_asm); (case hs => lcg_sub); (case k1 => k_asm); (case k2 => k_asm); (case k3 => k_asm); (case k5 => k_asm); (case kK => first | exact rfl | assumption); (case kd => ktr_room); (case ku => ktr_units); (case kp => exact True.intro); (case b1 => (constructor <;> omega)); (case b2 => (constructor <;> omega)); (case b3 => (constructor <;> omega)); (case b4 => (constructor <;> omega))))
  (rename edF (x1 - x0) (y1 - y0) = _ => he0)
  (rename edF (x2 - x1) (y2 - y1) = _ => he1)
  (rename edF (x0 - x2) (y0 - y2) = _ => he2)
  have z0 := span_of he0 (by omega) (by omega) (by omega) (by omega)
  have z1 := span_of he1 (by omega) (by omega) (by omega) (by omega)
  have z2 := span_of he2 (by omega) (by omega) (by omega) (by omega)
  k_with "exec If" => (refine Halt.out ?_)
  k_steps
  unfold Halt
  k_with_none
  k_with "MY Lw61" => (intro v' tl' h' tk' hres' F' N'; (refine Exists.elim hres'.2 ?_); intro t' hv'; (have htl' := hres'.1); subst hv' htl'; clear hres'; (simp only [List.cons_append, List.nil_append] at N'); k_extra "MY tail")
  k_with "MY Lw62" => (intro v' tl' h' tk' hres' F' N' ho'; (refine Exists.elim hres'.2 ?_); intro t' hv'; (have htl' := hres'.1); subst hv' htl'; clear hres' ho'; (simp only [List.cons_append, List.nil_append] at N'); k_extra "MY tail")
  k_with "MY Lw63" => (intro v' tl' h' tk' hres' F' N'; (obtain ⟨D', R', I', k0', k1', k2', k3', k4', k5', k6', k7', hv', ht'⟩ := hres'); subst hv' ht'; (simp only [List.cons_append, List.nil_append] at N'); k_extra "MY tail")
  k_with "MY Lw64" => (intro v' tl' h' tk' hres' F' N'; (obtain ⟨D', me', tu', t1', t2', he', hv', ht'⟩ := hres'); subst hv' ht'; (simp only [List.cons_append, List.nil_append] at N'); k_extra "MY tail")
  k_with "MY Lw65" => (intro v' tl' h' tk' hres' F' N' ho'; (obtain ⟨D', ex', ey', t', u', hv', ht', he', q1', q2', q3', q4'⟩ := hres'); subst hv' ht'; (replace ho' := ordOf' ho'); (simp only [List.cons_append, List.nil_append] at N'); k_extra "MY tail")
  k_with "MY asm" => (first | with_reducible assumption | assumption | exact nTail (by assumption) | exact nTail (nTail (by assumption)))
  k_with "MY ne" => (refine neN ?_; (try dsimp only); first | exact off1_ne (by with_reducible assumption) (by k_mem) | exact Ne.symm (off1_ne (by with_reducible assumption) (by k_mem)) | omega)
  k_with "MY Lw31" => (k_here; k_dflt (refine LCg.CompSrc.range (by rfl) (by k_asm) (by k_asm) (by assumption) (by first | decide | rfl) (by first | rfl | decide) (by first | size_fits | exact Nat.le_of_ble_eq_true rfl) ?_; intro _; lcg_lit))
  k_with "MY Lw32" => (k_here; k_dflt (refine LCg.CompSrc.ledger (by rfl) (by k_asm) (by k_asm) (by k_mem) (by first | size_fits | exact Nat.le_of_ble_eq_true rfl) ?_; intro _; lcg_lit))
  k_with "MY tail" => ((try k_unmd) ; (try (k_unfold; (try dsimp only))) ; (try dsimp only) ; (try k_fold))
  k_with "MY Lw1" => (with_reducible refine mod_known (by assumption) (by assumption) ?_)
  k_with "MY Lw2" => (with_reducible refine fdivN (by assumption) (by assumption) (by assumption) ?_)
  k_with "MY Lw3" => (k_here; (refine' compEnd_one ?F ?N ?o ?oo ?S ?_); (case F => assumption); (case N => assumption); (case o => assumption); (case oo => with_reducible assumption); (case S => lcg_src))
  k_with "MY Lw4" => (k_here; (refine' compEnd_same ?F ?N ?o ?S ?_); (case F => assumption); (case N => with_reducible assumption); (case o => with_reducible assumption); (case S => lcg_src))
  k_with "MY Lw5" => (k_here; lcf_look; k_dflt (refine LCg.ListComp_U (F₀ := by k_asm) (by with_unfolding_all rfl) (by decide) (by rfl) (by decide) (by rfl) ?_); k_dflt lcg_toSrc)
  k_with "MY Lw6" => (k_here; lcg_look; k_dflt (refine LCg.ListComp_U (F₀ := by k_asm) (by with_unfolding_all rfl) (by decide) (by rfl) (by decide) (by rfl) ?_); k_dflt lcg_toSrc)
  k_with "MY Lw7" => (k_here; (with_reducible show wpAny _ _ (subscriptTail (Expr.Name _ _) _ (Value.ref _) (Value.int _ _)) _ _ _); k_dflt (refine' sub_list ?s1 ?s2 ?s3 ?s4 ?s5 ?s6 ?_; (case s1 => k_asm); (case s2 => k_mem); (case s3 => rfl); (case s4 => decide); (case s5 => decide); (case s6 => rfl); k_whole))
  k_with "MY Lw8" => (k_here; (with_reducible show wpAny _ _ (subscriptTail (Expr.Name _ _) _ (Value.ref _) (Value.int _ _)) _ _ _); k_dflt (refine' sub_list ?s1 ?s2 ?s3 ?s4 ?s5 ?s6 ?_; (case s1 => k_asm); (case s2 => k_mem); (case s3 => rfl); (case s4 => decide); (case s5 => decide); (case s6 => rfl); k_whole))
  k_with "MY Lw9" => (k_here; (with_reducible show wpAny _ _ (subscriptTail (Expr.Name _ _) _ (Value.ref _) (Value.int _ _)) _ _ _); k_dflt (refine' sub_list ?s1 ?s2 ?s3 ?s4 ?s5 ?s6 ?_; (case s1 => k_asm); (case s2 => k_mem); (case s3 => rfl); (case s4 => decide); (case s5 => decide); (case s6 => rfl); k_whole))
  k_with "MY Lw10" => (k_here; k_dflt (refine' CtrN.use (c_word _ _ _ _ _ _ _ _ _ _ _ _ _ ?b1 ?b2 ?b3 ?b4) ?hs _ _ _ _ _ _ _ _ _ _ _ _ _ _ _ _ _ ?k1 ?k2 ?k3 ?k4 ?k5 ?kK ?kd ?ku ?kp ?_; (case k4 => k_asm); (case hs => lcg_sub); (case k1 => k_asm); (case k2 => k_asm); (case k3 => k_asm); (case k5 => k_asm); (case kK => first | exact rfl | assumption); (case kd => ktr_room); (case ku => ktr_units); (case kp => exact True.intro); (case b1 => with_reducible assumption); (case b2 => with_reducible assumption); (case b3 => with_reducible assumption); (case b4 => with_reducible assumption)))
  k_with "MY Lw11" => (k_here; k_dflt (refine' (c_apk _ _ _ _ _ _ _ _ ?b1 ?b2) _ _ _ _ _ _ _ _ _ _ _ _ _ _ _ _ _ ?k1 ?k2 ?k3 ?k4 ?k5 ?kK ?kd ?ku ?_; (case k4 => k_asm); (case k1 => k_asm); (case k2 => k_asm); (case k3 => k_asm); (case k5 => k_asm); (case kK => first | exact rfl | assumption); (case kd => ktr_room); (case ku => ktr_units); (case b1 => with_reducible assumption); (case b2 => with_reducible assumption)))
  k_with "MY Lw12" => (k_here; k_dflt (refine' CtrN.use (c_painted _ _ _ _ _ _ _ _ _ _ _ _ _ _ _ _ _ _ _ _ ?b1 ?b2 ?b3 ?b4 ?b5 ?b6 ?bp) ?hs _ _ _ _ _ _ _ _ _ _ _ _ _ _ _ _ _ ?k1 ?k2 ?k3 ?k4 ?k5 ?kK ?kd ?ku ?kp ?_; (case k4 => k_asm); (case hs => lcg_sub); (case k1 => k_asm); (case k2 => k_asm); (case k3 => k_asm); (case k5 => k_asm); (case kK => first | exact rfl | assumption); (case kd => ktr_room); (case ku => ktr_units); (case kp => exact True.intro); (case b1 => (constructor <;> omega)); (case b2 => (constructor <;> omega)); (case b3 => (constructor <;> omega)); (case b4 => (constructor <;> omega)); (case b5 => (constructor <;> omega)); (case b6 => (constructor <;> omega)); (case bp => assumption)))
  k_with "MY Lw13" => (k_here; k_dflt (refine' CtrN.use (c_wedge _ _ _ _ _ _ _ _ _ _ _ _ _ _ _ _ _ _ _ ?b1 ?b2 ?b3 ?b4 ?b5 ?b6) ?hs _ _ _ _ _ _ _ _ _ _ _ _ _ _ _ _ _ ?k1 ?k2 ?k3 ?k4 ?k5 ?kK ?kd ?ku ?kp ?_; (case k4 => k_asm); (case hs => lcg_sub); (case k1 => k_asm); (case k2 => k_asm); (case k3 => k_asm); (case k5 => k_asm); (case kK => first | exact rfl | assumption); (case kd => ktr_room); (case ku => ktr_units); (case kp => exact True.intro); (case b1 => (constructor <;> omega)); (case b2 => (constructor <;> omega)); (case b3 => (constructor <;> omega)); (case b4 => (constructor <;> omega)); (case b5 => (constructor <;> omega)); (case b6 => (constructor <;> omega))))
  k_with "MY Lw14" => (k_here; k_dflt (refine' CtrO.use (c_edgeq _ _ _ _ _ _ _ _ _ _ _ _ _ _ ?b1 ?b2 ?b3 ?b4) ?hs _ _ _ _ _ _ _ _ _ _ _ _ _ _ _ _ _ ?k1 ?k2 ?k3 ?k4 ?k5 ?kK ?kd ?ku ?kp ?_; (case k4 => k_asm); (case hs => lcg_sub); (case k1 => k_asm); (case k2 => k_asm); (case k3 => k_asm); (case k5 => k_asm); (case kK => first | exact rfl | assumption); (case kd => ktr_room); (case ku => ktr_units); (case kp => exact True.intro); (case b1 => (constructor <;> omega)); (case b2 => (constructor <;> omega)); (case b3 => (constructor <;> omega)); (case b4 => (constructor <;> omega))))
  (rename wgF x0 y0 _ _ _ _ = _ => hw0)
  (rename wgF x1 y1 _ _ _ _ = _ => hw1)
  (rename wgF x2 y2 _ _ _ _ = _ => hw2)
  have hpl := plain_all ⟨b1, b2⟩ ⟨b3, b4⟩ ⟨b5, b6⟩ ⟨b7, b8⟩ ⟨b9, b10⟩ ⟨b11, b12⟩ gp he0 he1 he2 hw0 hw1 hw2
  unfold PlainOK spn at hpl
  obtain ⟨ho, hlg, c1, c2, NN, MM, d1, d2, n1, n2, ap1, ap2, r0, r1, r2, r3, i0, i1, i2, i3⟩ := hpl
  k_steps)
end Mine
set_option maxRecDepth 100000 in
set_option maxHeartbeats 8000000 in
theorem PySem.Challenge.cw_tp0006_01_holds : PySem.Challenge.rw_tp0006_01.Holds := by
  exact Mine.law_holds
