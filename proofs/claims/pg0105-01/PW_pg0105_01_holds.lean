import PyProof.Rows.All
import Wide.All
import OpenK.AllK
import Wide.FinOn
import PySem.Challenge.RW_pg0105_01
open PySem PySem.W PyProof.Rows
set_option Elab.async false
namespace Mine
set_option maxRecDepth 100000 in
set_option maxHeartbeats 8000000 in
open_top hd for PySem.Challenge.rw_pg0105_01
noncomputable abbrev PG : Program := PySem.Challenge.rw_pg0105_01.row.prog
noncomputable abbrev LS : List Str := looseW hd.view_39 [Str.ofString "ONE_THIRD", Str.ofString "ONE_SIXTH", Str.ofString "TWO_THIRD"]
abbrev Led := List (Addr × Obj)
/-- what a call of the def at `f` with `vs` does: it hands back a value and some new objects (k: the frames that it needs) -/
abbrev Ctr (k : Nat) (w : World) (f : Addr) (vs : List Value) (Out : Led → Value → Prop) : Prop :=
  ∀ (mean : ExcName → Option Value) (mg mb : Str → Option Value) (dp un : Nat) (gd : Option (List Code)) (cn : Str) (cs : Scope) (a : Addr) (ccd : Value) (cl : List (Str × Addr)) (outer : List Env) (A₀ : Around) (base h₀ : Heap) (L : Addr) (m : Str → Option Value) (news : Led) (s : Shared)
    (Q E : Value → Shared → Prop),
    Below A₀ base outer h₀ → Fr h₀ L s.heap m → (hd.heap_39 w.params).In h₀ → News h₀ L s.heap news → Top hd.view_39 LS mean mg mb h₀ → cs.kind = .function → dp + k < recursionLimit → un + 8 * k < cLine →
    (∀ (r : Value) (tl : Led) (h' : Heap) (tk' : Nat), Fr h₀ L h' m → News h₀ L h' (tl ++ news) → (∀ p ∈ tl, ∀ q ∈ news, q.1 < p.1) → Out tl r → Q r { s with heap := h', toks := tk' }) →
    wpAny (model PG w) (ktrTop dp un gd cn cs L a ccd cl outer) (call (.ref f) vs) Q E s
theorem Ctr.use {k : Nat} {w : World} {f : Addr} {vs : List Value} {Out : Led → Value → Prop} {mean : ExcName → Option Value} {mg mb : Str → Option Value} {dp un : Nat} {gd : Option (List Code)} {cn : Str} {cs : Scope} {a : Addr} {ccd : Value} {cl : List (Str × Addr)} {outer : List Env} {A₀ : Around} {base h₀ : Heap} {L : Addr} {m : Str → Option Value} {news : Led} {s : Shared}
    {Q E : Value → Shared → Prop} (B : Below A₀ base outer h₀) (F : Fr h₀ L s.heap m) (X : (hd.heap_39 w.params).In h₀) (N : News h₀ L s.heap news) (T : Top hd.view_39 LS mean mg mb h₀) (C : Ctr k w f vs Out) (hk : cs.kind = .function) (hd : dp + k < recursionLimit) (hu : un + 8 * k < cLine)
    (h : ∀ (r : Value) (tl : Led) (h' : Heap) (tk' : Nat), Fr h₀ L h' m → News h₀ L h' (tl ++ news) → (∀ p ∈ tl, ∀ q ∈ news, q.1 < p.1) → Out tl r → Q r { s with heap := h', toks := tk' }) :
    wpAny (model PG w) (ktrTop dp un gd cn cs L a ccd cl outer) (call (.ref f) vs) Q E s := C _ _ _ _ _ _ _ _ _ _ _ _ _ _ _ _ _ _ _ _ _ B F X N T hk hd hu h
/-- a new tuple -/
abbrev tupO (vs : Array Value) : Obj := { cls := .type "tuple", data := .seq vs }
/-- one new object alone: a tuple of three floats -/
def Tup3 (c : UInt64 × UInt64 × UInt64) (tl : Led) (r : Value) : Prop := ∃ D t1 t2 t3, r = .ref D ∧ tl = [(D, tupO #[.float c.1 t1, .float c.2.1 t2, .float c.2.2 t3])]
theorem one_above {D : Addr} {o : Obj} {news : Led} (h : ∀ q ∈ news, q.1 < D) : ∀ p ∈ [(D, o)], ∀ q ∈ news, q.1 < p.1 := by
  intro p hp q hq
  rw [List.mem_singleton.mp hp]
  exact h q hq
open PySem.Flt
def mx3 (x y z : UInt64) : UInt64 := if (Float64.cmp x y == some .lt) = true then (if (Float64.cmp y z == some .lt) = true then z else y) else (if (Float64.cmp x z == some .lt) = true then z else x)
def mn3 (x y z : UInt64) : UInt64 := if (Float64.cmp y x == some .lt) = true then (if (Float64.cmp z y == some .lt) = true then z else y) else (if (Float64.cmp z x == some .lt) = true then z else x)
section
variable {prog : Program} {w : World} {A : Around} {E : Value → Shared → Prop} {s : Shared} {Q : Value → Shared → Prop} {x y z : UInt64} {t u v : Tok} {h₀ : Heap} {L : Addr} {m : Str → Option Value} {news : List (Addr × Obj)}
theorem three_low {s : Shared} {a b c : Value} {d : Nat} (hd : d ∈ [(s.heap.push { cls := .type "tuple", data := .seq #[a, b, c] }).objs.size, s.heap.objs.size]) (o : Obj) :
    d < ((s.heap.push { cls := .type "tuple", data := .seq #[a, b, c] }).push o).objs.size := by
  have hsz : (s.heap.push { cls := .type "tuple", data := .seq #[a, b, c] }).objs.size = s.heap.objs.size + 1 := Heap.size_push ..
  rw [Heap.size_push, hsz]
  rw [hsz] at hd
  simp only [List.mem_cons, List.not_mem_nil, or_false] at hd
  omega
theorem three_old {s : Shared} {a b c : Value} {h' : Heap} {q : Obj} (hk : ∀ d o, d ∉ [(s.heap.push { cls := .type "tuple", data := .seq #[a, b, c] }).objs.size] → ((s.heap.push { cls := .type "tuple", data := .seq #[a, b, c] }).push q).get? d = some o → h'.get? d = some o) :
    ∀ d o, s.heap.get? d = some o → h'.get? d = some o := fun d o e => by
  have hsz : (s.heap.push { cls := .type "tuple", data := .seq #[a, b, c] }).objs.size = s.heap.objs.size + 1 := Heap.size_push ..
  refine hk d o (fun hm => ?_) (Heap.get?_push_of_some _ (Heap.get?_push_of_some _ e))
  have := Heap.lt_size e
  rw [hsz] at hm
  simp only [List.mem_cons, List.not_mem_nil, or_false] at hm
  rw [hm] at this
  exact Nat.lt_irrefl _ (Nat.lt_of_succ_lt this)
theorem max3_ff (hh : A.handled = none) (F : Fr h₀ L s.heap m) (N : News h₀ L s.heap news)
    (h : ∀ h' tk r, Fr h₀ L h' m → News h₀ L h' news → Q (.float (mx3 x y z) r) { s with heap := h', toks := tk }) :
    wpAny (model prog w) A (call (.builtin "max") [.float x t, .float y u, .float z v]) Q E s := by
  have hT : (s.heap.push { cls := .type "tuple", data := .seq #[.float x t, .float y u, .float z v] }).IsTuple s.heap.objs.size #[.float x t, .float y u, .float z v] := ⟨_, Heap.get?_push_size _ rfl, rfl, 0, rfl⟩
  refine call_max_three (wpAny_pyIter_tuple hT ?_)
  have hsz : (s.heap.push { cls := .type "tuple", data := .seq #[.float x t, .float y u, .float z v] }).objs.size = s.heap.objs.size + 1 := Heap.size_push ..
  refine ⟨_, [_, s.heap.objs.size], [_], _, _, _, _, rfl, Walks.tuple (A := A.in1) hh _ s.heap.objs.size (by rw [hsz]; exact Nat.ne_of_lt (Nat.lt_succ_self _)) #[.float x t, .float y u, .float z v],
    ⟨⟨_, Heap.get?_push_size _ rfl, rfl, rfl⟩, hT.push _⟩, fun d hd => three_low hd _, by simp, cmpOf_gt #[.float x t, .float y u, .float z v] (by intro q hq; simp at hq; rcases hq with rfl | rfl | rfl <;> exact NumV.float _ _), fun r h' tk hP hk => ?_⟩
  have kp := three_old hk
  have hv : ∃ q, r = .float (mx3 x y z) q := by
    cases h1 : (Float64.cmp x y == some .lt) <;> cases h2 : (Float64.cmp y z == some .lt) <;> cases h3 : (Float64.cmp x z == some .lt) <;>
      simp [argBest, ltV, h1, h2, h3] at hP <;> simp only [mx3, h1, h2, h3] <;> simp <;> rw [← hP] <;> simp
  obtain ⟨q, rfl⟩ := hv
  exact h h' tk q (F.grownK kp) (N.grown kp)
theorem min3_ff (hh : A.handled = none) (F : Fr h₀ L s.heap m) (N : News h₀ L s.heap news)
    (h : ∀ h' tk r, Fr h₀ L h' m → News h₀ L h' news → Q (.float (mn3 x y z) r) { s with heap := h', toks := tk }) :
    wpAny (model prog w) A (call (.builtin "min") [.float x t, .float y u, .float z v]) Q E s := by
  have hT : (s.heap.push { cls := .type "tuple", data := .seq #[.float x t, .float y u, .float z v] }).IsTuple s.heap.objs.size #[.float x t, .float y u, .float z v] := ⟨_, Heap.get?_push_size _ rfl, rfl, 0, rfl⟩
  refine call_min_three (wpAny_pyIter_tuple hT ?_)
  have hsz : (s.heap.push { cls := .type "tuple", data := .seq #[.float x t, .float y u, .float z v] }).objs.size = s.heap.objs.size + 1 := Heap.size_push ..
  refine ⟨_, [_, s.heap.objs.size], [_], _, _, _, _, rfl, Walks.tuple (A := A.in1) hh _ s.heap.objs.size (by rw [hsz]; exact Nat.ne_of_lt (Nat.lt_succ_self _)) #[.float x t, .float y u, .float z v],
    ⟨⟨_, Heap.get?_push_size _ rfl, rfl, rfl⟩, hT.push _⟩, fun d hd => three_low hd _, by simp, cmpOf_lt #[.float x t, .float y u, .float z v] (by intro q hq; simp at hq; rcases hq with rfl | rfl | rfl <;> exact NumV.float _ _), fun r h' tk hP hk => ?_⟩
  have kp := three_old hk
  have hv : ∃ q, r = .float (mn3 x y z) q := by
    cases h1 : (Float64.cmp y x == some .lt) <;> cases h2 : (Float64.cmp z y == some .lt) <;> cases h3 : (Float64.cmp z x == some .lt) <;>
      simp [argBest, ltV, h1, h2, h3] at hP <;> simp only [mn3, h1, h2, h3] <;> simp <;> rw [← hP] <;> simp
  obtain ⟨q, rfl⟩ := hv
  exact h h' tk q (F.grownK kp) (N.grown kp)
end
abbrev f1 : UInt64 := 0x3ff0000000000000
abbrev f6 : UInt64 := 0x4018000000000000
abbrev fh : UInt64 := 0x3fe0000000000000
abbrev f2 : UInt64 := 0x4000000000000000
abbrev f4 : UInt64 := 0x4010000000000000
abbrev T3 := UInt64 × UInt64 × UInt64
/-- hsv_to_rgb where the saturation is not nought -/
def hsvI (h : UInt64) : Int := Flt.toInt Float64.truncOf (Float64.mul h 0x4018000000000000)
def hsvD (h : UInt64) : UInt64 := Float64.sub (Float64.mul h 0x4018000000000000) (Float64.ofInt (hsvI h))
def hsvF (h s v : UInt64) : T3 :=
  let p := Float64.mul v (Float64.sub 0x3ff0000000000000 s)
  let q := Float64.mul v (Float64.sub 0x3ff0000000000000 (Float64.mul s (hsvD h)))
  let t := Float64.mul v (Float64.sub 0x3ff0000000000000 (Float64.mul s (Float64.sub 0x3ff0000000000000 (hsvD h))))
  let i := Int.fmod (hsvI h) 6
  if i = 0 then (v, t, p) else if i = 1 then (q, v, p) else if i = 2 then (p, v, t) else if i = 3 then (p, q, v) else if i = 4 then (t, p, v) else (v, p, q)
/-- the hue's part of rgb_to_hsv and rgb_to_hls -/
def hueF (r g b : UInt64) : UInt64 :=
  let mx := mx3 r g b
  let d := Float64.sub mx (mn3 r g b)
  let rc := Float64.div (Float64.sub mx r) d
  let gc := Float64.div (Float64.sub mx g) d
  let bc := Float64.div (Float64.sub mx b) d
  let h := bif (Float64.cmp r mx == some .eq) then Float64.sub bc gc else bif (Float64.cmp g mx == some .eq) then Float64.sub (Float64.add 0x4000000000000000 rc) bc else Float64.sub (Float64.add 0x4010000000000000 gc) rc
  (Float64.divmod (Float64.div h 0x4018000000000000) 0x3ff0000000000000).2
def backF (r g b : UInt64) : T3 := (hueF r g b, Float64.div (Float64.sub (mx3 r g b) (mn3 r g b)) (mx3 r g b), mx3 r g b)
def q8 (n : Int) : UInt64 := Float64.ofFrac (decide (n < 0) != decide ((8 : Int) < 0)) n.natAbs (8 : Int).natAbs
def backOk (c : T3) : Bool := !(Float64.cmp (mn3 c.1 c.2.1 c.2.2) (mx3 c.1 c.2.1 c.2.2) == some .eq) && !Float64.isZero (mx3 c.1 c.2.1 c.2.2) && !Float64.isZero (Float64.sub (mx3 c.1 c.2.1 c.2.2) (mn3 c.1 c.2.1 c.2.2))
theorem c_t {α : Type} {b : Bool} {x y : α} (h : b = true) : (bif b then x else y) = x := by rw [h]; rfl
theorem c_f {α : Type} {b : Bool} {x y : α} (h : b = false) : (bif b then x else y) = y := by rw [h]; rfl
/-- _v -/
def vF (x y u : UInt64) : UInt64 :=
  let h := (Float64.divmod u 0x3ff0000000000000).2
  bif (Float64.cmp h 4595172819793696085 == some .lt) then Float64.add x (Float64.mul (Float64.mul (Float64.sub y x) h) 0x4018000000000000) else
  bif (Float64.cmp h 0x3fe0000000000000 == some .lt) then y else
  bif (Float64.cmp h 4604180019048437077 == some .lt) then Float64.add x (Float64.mul (Float64.mul (Float64.sub y x) (Float64.sub 4604180019048437077 h)) 0x4018000000000000) else x
/-- hls_to_rgb where the light is at most a half and the strength is not nought -/
def hlsM2 (l s : UInt64) : UInt64 := Float64.mul l (Float64.add 0x3ff0000000000000 s)
def hlsM1 (l s : UInt64) : UInt64 := Float64.sub (Float64.mul 0x4000000000000000 l) (hlsM2 l s)
def hlsF (h l s : UInt64) : T3 := (vF (hlsM1 l s) (hlsM2 l s) (Float64.add h 4599676419421066581), vF (hlsM1 l s) (hlsM2 l s) h, vF (hlsM1 l s) (hlsM2 l s) (Float64.sub h 4599676419421066581))
def leHalf (l : UInt64) : Bool := Float64.cmp l 0x3fe0000000000000 == some .lt || Float64.cmp l 0x3fe0000000000000 == some .eq
def hlsOk (l s : UInt64) : Bool := !(Float64.cmp s 0 == some .eq) && leHalf l
/-- rgb_to_hls -/
def backL (r g b : UInt64) : T3 :=
  let l := Float64.div (Float64.add (mx3 r g b) (mn3 r g b)) 0x4000000000000000
  let d := Float64.sub (mx3 r g b) (mn3 r g b)
  (hueF r g b, l, bif leHalf l then Float64.div d (Float64.add (mx3 r g b) (mn3 r g b)) else Float64.div d (Float64.sub (Float64.sub 0x4000000000000000 (mx3 r g b)) (mn3 r g b)))
def backLOk (c : T3) : Bool := !(Float64.cmp (mn3 c.1 c.2.1 c.2.2) (mx3 c.1 c.2.1 c.2.2) == some .eq) && !Float64.isZero (Float64.add (mx3 c.1 c.2.1 c.2.2) (mn3 c.1 c.2.1 c.2.2)) && !Float64.isZero (Float64.sub (mx3 c.1 c.2.1 c.2.2) (mn3 c.1 c.2.1 c.2.2)) && !Float64.isZero (Float64.sub (Float64.sub 0x4000000000000000 (mx3 c.1 c.2.1 c.2.2)) (mn3 c.1 c.2.1 c.2.2))
def allN (p : Nat → Bool) : Nat → Bool
  | 0 => true
  | n + 1 => p n && allN p n
theorem allN_at {p : Nat → Bool} : ∀ {N : Nat}, allN p N = true → ∀ n, n < N → p n = true
  | 0, _, _, h => absurd h (Nat.not_lt_zero _)
  | N + 1, e, n, h => by
    obtain ⟨a, b⟩ := Bool.and_eq_true_iff.mp e
    rcases Nat.lt_succ_iff_lt_or_eq.mp h with q | q
    · exact allN_at b n q
    · rw [q]; exact a
theorem all_int {p : Int → Bool} {N : Nat} (e : allN (fun n => p (n : Int)) N = true) (n : Int) (h0 : 0 ≤ n) (h1 : n < (N : Int)) : p n = true := by
  have h := allN_at e n.toNat (by omega)
  have q : ((n.toNat : Nat) : Int) = n := by omega
  rw [q] at h
  exact h
def hsvOk (h s : UInt64) : Bool := !(Float64.cmp s 0 == some .eq) && Float64.isFinite (Float64.mul h 0x4018000000000000) && decide ((hsvI h).natAbs < 2 ^ 60)
def seenOk (n : Int) (s : UInt64) : Bool := hsvOk (q8 n) s && (let c := hsvF (q8 n) s 0x3ff0000000000000; backOk c && (backF c.1 c.2.1 c.2.2 == (q8 (n % 8), s, 0x3ff0000000000000)))
def allR (p : Int → Bool) (a : Nat) : Nat → Bool
  | 0 => true
  | n + 1 => p ((a + n : Nat) : Int) && allR p a n
theorem allR_at {p : Int → Bool} {a : Nat} : ∀ {N : Nat}, allR p a N = true → ∀ n, a ≤ n → n < a + N → p (n : Int) = true
  | 0, _, n, h, h' => absurd (Nat.lt_of_le_of_lt h h') (Nat.lt_irrefl _)
  | N + 1, e, n, h, h' => by
    obtain ⟨x, y⟩ := Bool.and_eq_true_iff.mp e
    rcases Nat.lt_or_ge n (a + N) with q | q
    · exact allR_at y n h q
    · have : n = a + N := by omega
      rw [this]; exact x
theorem all_64 {p : Int → Bool} (e0 : allR p 0 8 = true) (e1 : allR p 8 8 = true) (e2 : allR p 16 8 = true) (e3 : allR p 24 8 = true) (e4 : allR p 32 8 = true) (e5 : allR p 40 8 = true) (e6 : allR p 48 8 = true) (e7 : allR p 56 8 = true) (n : Int) (h0 : 0 ≤ n) (h1 : n < 64) : p n = true := by
  obtain ⟨m, rfl⟩ := Int.eq_ofNat_of_zero_le h0
  have hm : m < 64 := by omega
  rcases Nat.lt_or_ge m 32 with q | q
  · rcases Nat.lt_or_ge m 16 with q1 | q1
    · rcases Nat.lt_or_ge m 8 with q2 | q2
      · exact allR_at e0 m (Nat.zero_le _) q2
      · exact allR_at e1 m q2 q1
    · rcases Nat.lt_or_ge m 24 with q2 | q2
      · exact allR_at e2 m q1 q2
      · exact allR_at e3 m q2 q
  · rcases Nat.lt_or_ge m 48 with q1 | q1
    · rcases Nat.lt_or_ge m 40 with q2 | q2
      · exact allR_at e4 m q q2
      · exact allR_at e5 m q2 q1
    · rcases Nat.lt_or_ge m 56 with q2 | q2
      · exact allR_at e6 m q1 q2
      · exact allR_at e7 m q2 hm
theorem so0 : allR (fun n => seenOk n 0x3ff0000000000000) 0 8 = true := by decide +kernel
theorem so1 : allR (fun n => seenOk n 0x3ff0000000000000) 8 8 = true := by decide +kernel
theorem so2 : allR (fun n => seenOk n 0x3ff0000000000000) 16 8 = true := by decide +kernel
theorem so3 : allR (fun n => seenOk n 0x3ff0000000000000) 24 8 = true := by decide +kernel
theorem so4 : allR (fun n => seenOk n 0x3ff0000000000000) 32 8 = true := by decide +kernel
theorem so5 : allR (fun n => seenOk n 0x3ff0000000000000) 40 8 = true := by decide +kernel
theorem so6 : allR (fun n => seenOk n 0x3ff0000000000000) 48 8 = true := by decide +kernel
theorem so7 : allR (fun n => seenOk n 0x3ff0000000000000) 56 8 = true := by decide +kernel
theorem seen_one : ∀ n : Int, 0 ≤ n → n < 64 → seenOk n 0x3ff0000000000000 = true := all_64 (p := fun n => seenOk n 0x3ff0000000000000) so0 so1 so2 so3 so4 so5 so6 so7
theorem sh0 : allR (fun n => seenOk n 0x3fe0000000000000) 0 8 = true := by decide +kernel
theorem sh1 : allR (fun n => seenOk n 0x3fe0000000000000) 8 8 = true := by decide +kernel
theorem sh2 : allR (fun n => seenOk n 0x3fe0000000000000) 16 8 = true := by decide +kernel
theorem sh3 : allR (fun n => seenOk n 0x3fe0000000000000) 24 8 = true := by decide +kernel
theorem sh4 : allR (fun n => seenOk n 0x3fe0000000000000) 32 8 = true := by decide +kernel
theorem sh5 : allR (fun n => seenOk n 0x3fe0000000000000) 40 8 = true := by decide +kernel
theorem sh6 : allR (fun n => seenOk n 0x3fe0000000000000) 48 8 = true := by decide +kernel
theorem sh7 : allR (fun n => seenOk n 0x3fe0000000000000) 56 8 = true := by decide +kernel
theorem seen_half : ∀ n : Int, 0 ≤ n → n < 64 → seenOk n 0x3fe0000000000000 = true := all_64 (p := fun n => seenOk n 0x3fe0000000000000) sh0 sh1 sh2 sh3 sh4 sh5 sh6 sh7
theorem over_not {n : Int} (h : n.natAbs < 2 ^ 60) : ¬ Flt.Over n := by
  unfold Flt.Over
  have e : (2 : Nat) ^ 60 ≤ 2 ^ 1024 - 2 ^ 970 := by decide +kernel
  omega
section
variable {Q : Value → Shared → Prop} {h₀ : Heap} {L : Addr} {m : Str → Option Value} {news : Led} {s : Shared} {D : Addr} {h' : Heap} {tk : Nat}
theorem tup3_ret {c : T3}
    (hret : ∀ (r : Value) (tl : Led) (h' : Heap) (tk' : Nat), Fr h₀ L h' m → News h₀ L h' (tl ++ news) → (∀ p ∈ tl, ∀ q ∈ news, q.1 < p.1) → Tup3 c tl r → Q r { s with heap := h', toks := tk' })
    {x y z : UInt64} {t1 t2 t3 : Tok} (e : c = (x, y, z)) (F : Fr h₀ L h' m) (N : News h₀ L h' ((D, tupO #[.float x t1, .float y t2, .float z t3]) :: news)) (l : ∀ q ∈ news, q.1 < D) :
    Q (.ref D) { s with heap := h', toks := tk } := by
  subst e
  exact hret _ [_] _ _ F N (one_above l) ⟨_, _, _, _, rfl, rfl⟩
/-- a tuple of three floats, the second of a token that is not nought -/
def Tup3P (c : UInt64 × UInt64 × UInt64) (tl : Led) (r : Value) : Prop := ∃ D t1 t2 t3, 0 < t2 ∧ r = .ref D ∧ tl = [(D, tupO #[.float c.1 t1, .float c.2.1 t2, .float c.2.2 t3])]
theorem tup3p_ret {c : T3}
    (hret : ∀ (r : Value) (tl : Led) (h' : Heap) (tk' : Nat), Fr h₀ L h' m → News h₀ L h' (tl ++ news) → (∀ p ∈ tl, ∀ q ∈ news, q.1 < p.1) → Tup3P c tl r → Q r { s with heap := h', toks := tk' })
    {x y z : UInt64} {t1 t2 t3 : Tok} (e : c = (x, y, z)) (ht : 0 < t2) (F : Fr h₀ L h' m) (N : News h₀ L h' ((D, tupO #[.float x t1, .float y t2, .float z t3]) :: news)) (l : ∀ q ∈ news, q.1 < D) :
    Q (.ref D) { s with heap := h', toks := tk } := by
  subst e
  exact hret _ [_] _ _ F N (one_above l) ⟨_, _, _, _, ht, rfl, rfl⟩
/-- the count of tokens forgotten, but that it is not nought -/
theorem gen_pos {α : Type} {M : Model} {A : Around} {t : Sem α} {Q : α → Shared → Prop} {E : Value → Shared → Prop} {hp : Heap} {g : Array GenState} {d : Drawn} {o : OsState} {X : Nat}
    (h : ∀ tk, 0 < tk → wpAny M A t Q E ⟨hp, g, d, tk, o⟩) : wpAny M A t Q E ⟨hp, g, d, X + 1, o⟩ := h _ (Nat.succ_pos _)
/-- a float and no new object -/
def OneF (c : UInt64) (tl : Led) (r : Value) : Prop := ∃ t, r = .float c t ∧ tl = []
def OneB (c : Bool) (tl : Led) (r : Value) : Prop := r = .bool c ∧ tl = []
def OneI (c : Int) (tl : Led) (r : Value) : Prop := ∃ t, r = .int c t ∧ tl = []
def OneS (c : Str) (tl : Led) (r : Value) : Prop := ∃ t, r = .str c t ∧ tl = []
theorem oneF_ret {c x : UInt64} {t : Tok}
    (hret : ∀ (r : Value) (tl : Led) (h' : Heap) (tk' : Nat), Fr h₀ L h' m → News h₀ L h' (tl ++ news) → (∀ p ∈ tl, ∀ q ∈ news, q.1 < p.1) → OneF c tl r → Q r { s with heap := h', toks := tk' })
    (e : c = x) (F : Fr h₀ L h' m) (N : News h₀ L h' news) : Q (.float x t) { s with heap := h', toks := tk } := by
  subst e
  exact hret _ [] _ _ F N (fun _ h => nomatch h) ⟨_, rfl, rfl⟩
theorem oneB_ret {c x : Bool}
    (hret : ∀ (r : Value) (tl : Led) (h' : Heap) (tk' : Nat), Fr h₀ L h' m → News h₀ L h' (tl ++ news) → (∀ p ∈ tl, ∀ q ∈ news, q.1 < p.1) → OneB c tl r → Q r { s with heap := h', toks := tk' })
    (e : c = x) (F : Fr h₀ L h' m) (N : News h₀ L h' news) : Q (.bool x) { s with heap := h', toks := tk } := by
  subst e
  exact hret _ [] _ _ F N (fun _ h => nomatch h) ⟨rfl, rfl⟩
theorem oneI_ret {c x : Int} {t : Tok}
    (hret : ∀ (r : Value) (tl : Led) (h' : Heap) (tk' : Nat), Fr h₀ L h' m → News h₀ L h' (tl ++ news) → (∀ p ∈ tl, ∀ q ∈ news, q.1 < p.1) → OneI c tl r → Q r { s with heap := h', toks := tk' })
    (e : c = x) (F : Fr h₀ L h' m) (N : News h₀ L h' news) : Q (.int x t) { s with heap := h', toks := tk } := by
  subst e
  exact hret _ [] _ _ F N (fun _ h => nomatch h) ⟨_, rfl, rfl⟩
theorem oneS_ret {c x : Str} {t : Tok}
    (hret : ∀ (r : Value) (tl : Led) (h' : Heap) (tk' : Nat), Fr h₀ L h' m → News h₀ L h' (tl ++ news) → (∀ p ∈ tl, ∀ q ∈ news, q.1 < p.1) → OneS c tl r → Q r { s with heap := h', toks := tk' })
    (e : c = x) (F : Fr h₀ L h' m) (N : News h₀ L h' news) : Q (.str x t) { s with heap := h', toks := tk } := by
  subst e
  exact hret _ [] _ _ F N (fun _ h => nomatch h) ⟨_, rfl, rfl⟩
end
set_option maxRecDepth 100000 in
set_option maxHeartbeats 8000000 in
theorem hsv_ctr (w : World) (h s' v : UInt64) (t1 t2 t3 : Tok) (ok : hsvOk h s' = true) : Ctr 2 w 49 [.float h t1, .float s' t2, .float v t3] (Tup3 (hsvF h s' v)) := by
  unfold Ctr PG LS; k_fill; k_with_none; w_top off
  intro mean mg mb dp un gd cn cs a ccd cl outer A₀ base h₀ L m news s Q E B F X N T hk hd hu hret
  simp only [hsvOk, Bool.and_eq_true, Bool.not_eq_true', hsvI] at ok
  obtain ⟨⟨ok1, ok2⟩, ok3⟩ := ok
  have ok4 := over_not (of_decide_eq_true ok3)
  refine wpAny_call ?_
  k_dflt ktr_enter
  k_steps
  all_goals first
    | (refine tup3_ret hret ?_ (by assumption) (by assumption) (by assumption)
       (unfold hsvF hsvD hsvI; dsimp only; simp (disch := assumption) only [if_pos, if_neg]))
    | (exfalso
       have hl := fmod_lo (Flt.toInt Float64.truncOf (Float64.mul h 4618441417868443648)) (n := 6) (by decide)
       have hh := fmod_hi (Flt.toInt Float64.truncOf (Float64.mul h 4618441417868443648)) (n := 6) (by decide)
       omega)
section
local macro_rules | `(tactic| walk_at "execs cons") => `(tactic| (k_here; (with_reducible refine gen_pos ?_); intro tk htk))
set_option maxRecDepth 100000 in
set_option maxHeartbeats 8000000 in
theorem back_ctr (w : World) (r g b : UInt64) (t1 t2 t3 : Tok) (ok : backOk (r, g, b) = true) : Ctr 2 w 42 [.float r t1, .float g t2, .float b t3] (Tup3P (backF r g b)) := by
  unfold Ctr PG LS; k_fill; k_with_none; w_top off
  k_with "call builtin:max cons nil" => ((with_reducible show wpAny _ _ (call _ [Value.float _ _, Value.float _ _, Value.float _ _]) _ _ _); (rename News _ _ _ _ => N9); (rename Fr _ _ _ _ => F9); refine max3_ff rfl F9 N9 ?_; clear N9; intro _ _ _ _ _)
  k_with "call builtin:min cons nil" => ((with_reducible show wpAny _ _ (call _ [Value.float _ _, Value.float _ _, Value.float _ _]) _ _ _); (rename News _ _ _ _ => N9); (rename Fr _ _ _ _ => F9); refine min3_ff rfl F9 N9 ?_; clear N9; intro _ _ _ _ _)
  intro mean mg mb dp un gd cn cs a ccd cl outer A₀ base h₀ L m news s Q E B F X N T hk hd hu hret
  simp only [backOk, Bool.and_eq_true, Bool.not_eq_true'] at ok
  obtain ⟨⟨ok1, ok2⟩, ok3⟩ := ok
  refine wpAny_call ?_
  k_dflt ktr_enter
  k_steps
  all_goals (
    refine' tup3p_ret hret ?e1 ?e2 ?e3 ?e4 ?e5
    (case e3 => assumption)
    (case e4 => assumption)
    (case e5 => assumption)
    (case e2 => first | assumption | exact Nat.succ_pos _ | omega)
    (case e1 => (unfold backF hueF; dsimp only; simp (disch := assumption) only [c_t, c_f])))
end
set_option maxRecDepth 100000 in
set_option maxHeartbeats 8000000 in
theorem v_ctr (w : World) (x y u : UInt64) (t1 t2 t3 : Tok) : Ctr 2 w 35 [.float x t1, .float y t2, .float u t3] (OneF (vF x y u)) := by
  unfold Ctr PG LS; k_fill; k_with_none; w_top off
  intro mean mg mb dp un gd cn cs a ccd cl outer A₀ base h₀ L m news s Q E B F X N T hk hd hu hret
  refine wpAny_call ?_
  k_dflt ktr_enter
  k_steps
  all_goals (
    refine oneF_ret hret ?_ (by assumption) (by assumption)
    (unfold vF; dsimp only; simp (disch := assumption) only [c_t, c_f]))
set_option maxRecDepth 100000 in
set_option maxHeartbeats 8000000 in
theorem hls_ctr (w : World) (h l s' : UInt64) (t1 t2 t3 : Tok) (ok : hlsOk l s' = true) : Ctr 3 w 28 [.float h t1, .float l t2, .float s' t3] (Tup3 (hlsF h l s')) := by
  unfold Ctr PG LS; k_fill; k_with_none; w_top off
  k_with "call ref cons nil" => (k_here; (with_reducible show wpAny _ _ (call (Value.ref 35) [Value.float _ _, Value.float _ _, Value.float _ _]) _ _ _); k_dflt (refine Ctr.use (by k_asm) (by k_asm) (by k_asm) (by k_asm) (by k_asm) (v_ctr _ _ _ _ _ _ _) (by first | exact rfl | assumption) (by ktr_room) (by ktr_units) ?_; k_whole); intro r9 tl9 h9 tk9 F9 N9 l9 o9; k_dflt (obtain ⟨t9, e9, e8⟩ := o9; subst e9; subst e8; clear l9); (try simp only [List.cons_append, List.nil_append] at N9); (try dsimp only); (try k_fold))
  intro mean mg mb dp un gd cn cs a ccd cl outer A₀ base h₀ L m news s Q E B F X N T hk hd hu hret
  simp only [hlsOk, leHalf, Bool.and_eq_true, Bool.not_eq_true'] at ok
  obtain ⟨ok1, ok2⟩ := ok
  refine wpAny_call ?_
  k_dflt ktr_enter
  k_steps
  all_goals (
    refine tup3_ret hret ?_ (by assumption) (by assumption) (by assumption)
    (unfold hlsF hlsM1 hlsM2; rfl))
set_option maxRecDepth 100000 in
set_option maxHeartbeats 8000000 in
theorem backL_ctr (w : World) (r g b : UInt64) (t1 t2 t3 : Tok) (ok : backLOk (r, g, b) = true) : Ctr 2 w 21 [.float r t1, .float g t2, .float b t3] (Tup3 (backL r g b)) := by
  unfold Ctr PG LS; k_fill; k_with_none; w_top off
  k_with "call builtin:max cons nil" => ((with_reducible show wpAny _ _ (call _ [Value.float _ _, Value.float _ _, Value.float _ _]) _ _ _); (rename News _ _ _ _ => N9); (rename Fr _ _ _ _ => F9); refine max3_ff rfl F9 N9 ?_; clear N9; intro _ _ _ _ _)
  k_with "call builtin:min cons nil" => ((with_reducible show wpAny _ _ (call _ [Value.float _ _, Value.float _ _, Value.float _ _]) _ _ _); (rename News _ _ _ _ => N9); (rename Fr _ _ _ _ => F9); refine min3_ff rfl F9 N9 ?_; clear N9; intro _ _ _ _ _)
  intro mean mg mb dp un gd cn cs a ccd cl outer A₀ base h₀ L m news s Q E B F X N T hk hd hu hret
  simp only [backLOk, Bool.and_eq_true, Bool.not_eq_true'] at ok
  obtain ⟨⟨⟨ok1, ok2⟩, ok3⟩, ok4⟩ := ok
  refine wpAny_call ?_
  k_dflt ktr_enter
  k_steps
  all_goals (
    refine tup3_ret hret ?_ (by assumption) (by assumption) (by assumption)
    (unfold backL hueF leHalf; dsimp only; simp (disch := assumption) only [c_t, c_f]))
/-- what parse257 reads behind its fifth sign -/
def scan : List Nat → List Nat
  | [] => []
  | [c] => if c = 34 then [] else [c]
  | c :: d :: r => if c = 34 then (if d = 34 then 34 :: scan r else []) else c :: scan (d :: r)
def T0 (n : Nat) : List Nat := List.replicate n 34
def T1 (n m : Nat) : List Nat := List.replicate n 34 ++ 107 :: List.replicate m 34
def txt (l : List Nat) : Str := ⟨l.toArray⟩
theorem scan_two (r : List Nat) : scan (34 :: 34 :: r) = 34 :: scan r := by simp [scan]
theorem scan_other {c : Nat} (h : c ≠ 34) (r : List Nat) : scan (c :: r) = c :: scan r := by
  cases r with
  | nil => simp [scan, h]
  | cons d r => simp [scan, h]
theorem scan_T0 : ∀ n, scan (T0 n) = T0 (n / 2)
  | 0 => rfl
  | 1 => by simp [T0, scan]
  | n + 2 => by
    have e : (n + 2) / 2 = n / 2 + 1 := by omega
    show scan (34 :: 34 :: T0 n) = _
    rw [scan_two, scan_T0 n, e]
    rfl
theorem scan_T1 (m : Nat) : ∀ n, scan (T1 n m) = if n % 2 = 0 then T1 (n / 2) (m / 2) else T0 (n / 2)
  | 0 => by
    show scan (107 :: T0 m) = 107 :: T0 (m / 2)
    rw [← scan_T0 m]
    exact scan_other (by decide) _
  | 1 => by simp [T1, T0, scan, List.replicate]
  | n + 2 => by
    have e : (n + 2) / 2 = n / 2 + 1 := by omega
    have e2 : (n + 2) % 2 = n % 2 := by omega
    show scan (34 :: 34 :: T1 n m) = _
    rw [scan_two, scan_T1 m n, e, e2]
    split <;> rfl
theorem item_at {R : Str} {i : Int} (h0 : 0 ≤ i) (h1 : i < (R.length : Int)) : ∃ c, Txt.item R i = ⟨#[c]⟩ ∧ R.cps.toList.drop i.toNat = c :: R.cps.toList.drop (i + 1).toNat := by
  have hl : i.toNat < R.cps.toList.length := by
    have : R.length = R.cps.toList.length := by simp [Str.length]
    omega
  have hs : seqIndex? i R.length = some i.toNat := by
    unfold seqIndex?
    have a : ¬ i < 0 := by omega
    simp [a, h0, h1]
  refine ⟨R.cps.toList[i.toNat], ?_, ?_⟩
  · unfold Txt.item Txt.charAt
    rw [hs]
    have q : R.cps[i.toNat]? = some R.cps.toList[i.toNat] := by rw [← Array.getElem?_toList]; exact List.getElem?_eq_getElem hl
    show (⟨#[(R.cps[i.toNat]?).getD 0]⟩ : Str) = _
    rw [q]; rfl
  · have e : (i + 1).toNat = i.toNat + 1 := by omega
    rw [e]
    exact List.drop_eq_getElem_cons hl
theorem quote_is : Str.ofString "\"" = ⟨#[34]⟩ := by decide +kernel
theorem is_quote {c : Nat} (h : ((⟨#[c]⟩ : Str) == Str.ofString "\"") = true) : c = 34 := by
  have e := beq_iff_eq.mp h
  rw [quote_is] at e
  simpa using e
theorem not_quote {c : Nat} (h : ((⟨#[c]⟩ : Str) == Str.ofString "\"") = false) : c ≠ 34 := by
  intro e
  subst e
  rw [quote_is] at h
  simp at h
/-- the while loop's word -/
def PInv (R : Str) (i : Int) (d : Str) : Prop := d.cps.toList ++ scan (R.cps.toList.drop i.toNat) = scan (R.cps.toList.drop 5)
def PW (R : Str) (n i : Int) (d : Str) : Prop := n = (R.length : Int) ∧ 0 ≤ i ∧ i ≤ (R.length : Int) ∧ (d.length : Int) ≤ i ∧ PInv R i d
theorem pw_start {R : Str} (h5 : 5 ≤ R.length) : PW R (R.length : Int) 5 (Str.ofString "") := by
  refine ⟨rfl, by omega, by omega, by decide, ?_⟩
  show (Str.ofString "").cps.toList ++ _ = _
  have e : (Str.ofString "").cps.toList = [] := by decide +kernel
  rw [e]; rfl
theorem len_one (c : Nat) : (⟨#[c]⟩ : Str).length = 1 := rfl
theorem cps_add (x y : Str) : (x ++ y).cps.toList = x.cps.toList ++ y.cps.toList := by
  show (x.cps ++ y.cps).toList = _
  simp
theorem len_add (x y : Str) : (x ++ y).length = x.length + y.length := by
  show (x.cps ++ y.cps).size = _
  simp [Str.length]
theorem pw_plain {R : Str} {n i : Int} {d : Str} (h : PW R n i d) (hi : i < (R.length : Int)) (hq : (Txt.item R i == Str.ofString "\"") = false) : PW R n (i + 1) (d ++ Txt.item R i) := by
  obtain ⟨hn, h0, h1, hd, hp⟩ := h
  obtain ⟨c, e1, e2⟩ := item_at h0 hi
  rw [e1] at hq ⊢
  have hc := not_quote hq
  refine ⟨hn, by omega, by omega, by rw [len_add, len_one]; omega, ?_⟩
  unfold PInv at hp ⊢
  rw [e2] at hp
  rw [cps_add, ← hp, scan_other hc]
  simp
theorem pw_pair {R : Str} {n i : Int} {d : Str} (h : PW R n i d) (hi : i < (R.length : Int)) (hq : (Txt.item R i == Str.ofString "\"") = true) (hj : i + 1 < (R.length : Int)) (hr : (Txt.item R (i + 1) != Str.ofString "\"") = false) : PW R n (i + 1 + 1) (d ++ Txt.item R i) := by
  obtain ⟨hn, h0, h1, hd, hp⟩ := h
  obtain ⟨c, e1, e2⟩ := item_at h0 hi
  obtain ⟨c', e3, e4⟩ := item_at (i := i + 1) (by omega) hj
  have hr : (Txt.item R (i + 1) == Str.ofString "\"") = true := by
    cases q : (Txt.item R (i + 1) == Str.ofString "\"") with
    | true => rfl
    | false => rw [bne, q] at hr; cases hr
  rw [e3] at hr
  rw [e1] at hq ⊢
  have hc := is_quote hq
  have hc' := is_quote hr
  refine ⟨hn, by omega, by omega, by rw [len_add, len_one]; omega, ?_⟩
  unfold PInv at hp ⊢
  rw [e2, e4, hc, hc', scan_two] at hp
  rw [cps_add, ← hp, hc]
  simp
theorem pw_end {R : Str} {n i : Int} {d : Str} (h : PW R n i d) (hi : ¬ i < (R.length : Int)) : txt (scan (R.cps.toList.drop 5)) = d := by
  obtain ⟨hn, h0, h1, hd, hp⟩ := h
  unfold PInv at hp
  have e : R.cps.toList.drop i.toNat = [] := List.drop_eq_nil_of_le (by simp only [Array.length_toList]; unfold Str.length at hi; omega)
  rw [e] at hp
  rw [← hp]
  simp [txt, scan]
theorem pw_brk1 {R : Str} {n i : Int} {d : Str} (h : PW R n i d) (hi : i < (R.length : Int)) (hq : (Txt.item R i == Str.ofString "\"") = true) (hj : (R.length : Int) ≤ i + 1) : txt (scan (R.cps.toList.drop 5)) = d := by
  obtain ⟨hn, h0, h1, hd, hp⟩ := h
  obtain ⟨c, e1, e2⟩ := item_at h0 hi
  rw [e1] at hq
  have hc := is_quote hq
  unfold PInv at hp
  have e : R.cps.toList.drop (i + 1).toNat = [] := List.drop_eq_nil_of_le (by simp only [Array.length_toList]; unfold Str.length at hj; omega)
  rw [e2, e, hc] at hp
  rw [← hp]
  simp [txt, scan]
theorem pw_brk2 {R : Str} {n i : Int} {d : Str} (h : PW R n i d) (hi : i < (R.length : Int)) (hq : (Txt.item R i == Str.ofString "\"") = true) (hj : i + 1 < (R.length : Int)) (hr : (Txt.item R (i + 1) != Str.ofString "\"") = true) : txt (scan (R.cps.toList.drop 5)) = d := by
  obtain ⟨hn, h0, h1, hd, hp⟩ := h
  obtain ⟨c, e1, e2⟩ := item_at h0 hi
  obtain ⟨c', e3, e4⟩ := item_at (i := i + 1) (by omega) hj
  have hr : (Txt.item R (i + 1) == Str.ofString "\"") = false := by
    cases q : (Txt.item R (i + 1) == Str.ofString "\"") with
    | false => rfl
    | true => rw [bne, q] at hr; cases hr
  rw [e3] at hr
  rw [e1] at hq
  have hc := is_quote hq
  have hc' := not_quote hr
  unfold PInv at hp
  rw [e2, e4, hc] at hp
  rw [← hp]
  simp [txt, scan, hc']
set_option maxRecDepth 100000 in
set_option maxHeartbeats 8000000 in
theorem parse_ctr (w : World) (R : Str) (t : Tok) (hR : R.length ≤ 1000) (h1 : (Txt.slice R none (some 3) != Str.ofString "257") = false) (h2 : (Txt.slice R (some 3) (some 5) != Str.ofString " \"") = false) (h5 : 5 ≤ R.length) : Ctr 2 w 81 [.str R t] (OneS (txt (scan (R.cps.toList.drop 5)))) := by
  unfold Ctr PG LS; k_fill; k_with_none; w_top off
  intro mean mg mb dp un gd cn cs a ccd cl outer A₀ base h₀ L m news s Q E B F X N T hk hd hu hret
  k_with_none
  k_with "exec While Compare cons nil" => k_while_given ["resp", "n"] (fun resp n script i dirname => n = (resp.length : Int) ∧ 0 ≤ i ∧ i ≤ (resp.length : Int) ∧ (dirname.length : Int) ≤ i ∧ PInv resp i dirname) (fun resp n script i dirname => (n - i).toNat) "i" "dirname"
  k_with "state" => exact pw_start (by assumption)
  k_with "state" => exact pw_plain ⟨by assumption, by assumption, by assumption, by assumption, by assumption⟩ (by assumption) (by assumption)
  k_with "state" => exact pw_pair ⟨by assumption, by assumption, by assumption, by assumption, by assumption⟩ (by assumption) (by assumption) (by omega) (by assumption)
  refine wpAny_call ?_
  k_dflt ktr_enter
  k_steps
  all_goals (
    refine oneS_ret hret ?_ (by assumption) (by assumption)
    first
    | exact pw_end ⟨by assumption, by assumption, by assumption, by assumption, by assumption⟩ (by assumption)
    | exact pw_brk1 ⟨by assumption, by assumption, by assumption, by assumption, by assumption⟩ (by assumption) (by assumption) (by assumption)
    | exact pw_brk2 ⟨by assumption, by assumption, by assumption, by assumption, by assumption⟩ (by assumption) (by assumption) (by omega) (by assumption))
/-! texts -/
theorem len_txt (l : List Nat) : (txt l).length = l.length := by simp [txt, Str.length]
theorem txt_list (l : List Nat) : (txt l).cps.toList = l := by simp [txt]
theorem len_T0 (n : Nat) : (T0 n).length = n := by simp [T0]
theorem len_T1 (n m : Nat) : (T1 n m).length = n + 1 + m := by simp [T1]; omega
theorem k_is_txt : Str.ofString "k" = txt [107] := by decide +kernel
theorem txt_add (x y : List Nat) : txt x ++ txt y = txt (x ++ y) := by
  show (⟨x.toArray ++ y.toArray⟩ : Str) = ⟨(x ++ y).toArray⟩
  simp
def head5 : List Nat := [50, 53, 55, 32, 34]
theorem head_is : Str.ofString "257 \"" = txt head5 := by decide +kernel
theorem slice_ofs {x : Str} {i j : Int} {y : Str} (h0 : 0 ≤ i) (h1 : i ≤ j) (h2 : j ≤ x.length) (e : y = ⟨((x.cps.toList.drop i.toNat).take (j - i).toNat).toArray⟩) : (Txt.slice x (some i) (some j) != y) = false := by
  rw [e, bne, slice_closesL h0 h1 h2]; rfl
theorem slice_to {x : Str} {j : Int} {y : Str} (h0 : 0 ≤ j) (h2 : j ≤ x.length) (e : y = ⟨((x.cps.toList.drop (0 : Int).toNat).take (j - 0).toNat).toArray⟩) : (Txt.slice x none (some j) != y) = false := by
  rw [e, bne, slice_closes_toL h0 h2]; rfl
theorem s257 : Str.ofString "257" = (⟨#[50, 53, 55]⟩ : Str) := by decide +kernel
theorem sBlank : Str.ofString " \"" = (⟨#[32, 34]⟩ : Str) := by decide +kernel
theorem sub1_at {x : Str} {c i : Nat} (h : StrLaws.At x ⟨#[c]⟩ x.length i) : x.cps.toList[i]? = some c := by
  obtain ⟨a, b⟩ := h
  have hi : i < x.cps.size := by have : (⟨#[c]⟩ : Str).length = 1 := rfl; rw [this] at a; unfold Str.length at a; omega
  unfold Builtin.Str.subAt at b
  have b := eq_of_beq b
  have e : (x.cps.extract i (i + (⟨#[c]⟩ : Str).length))[0]? = (#[c] : Array Nat)[0]? := by rw [b]
  have l1 : (⟨#[c]⟩ : Str).length = 1 := rfl
  rw [l1] at e
  rw [Array.getElem?_toList]
  have e2 : 0 < min (i + 1) x.cps.size - i ∧ x.cps[i] = c := by simpa [Array.getElem?_extract, hi] using e
  simpa [hi] using e2.2
theorem at_sub1 {x : Str} {c i : Nat} (h : x.cps.toList[i]? = some c) : StrLaws.At x ⟨#[c]⟩ x.length i := by
  rw [Array.getElem?_toList] at h
  have hi : i < x.cps.size := (Array.getElem?_eq_some_iff.mp h).1
  refine ⟨by show i + 1 ≤ x.cps.size; omega, ?_⟩
  unfold Builtin.Str.subAt
  refine beq_iff_eq.mpr ?_
  show x.cps.extract i (i + 1) = #[c]
  apply Array.ext_getElem?
  intro j
  rw [Array.getElem?_extract]
  have hm : min (i + 1) x.cps.size - i = 1 := by omega
  rw [hm]
  cases j with
  | zero => simpa using h
  | succ j => simp
theorem find_T1 (n m : Nat) : Txt.find (txt (T1 n m)) (Str.ofString "k") = (n : Int) := by
  have ek : Str.ofString "k" = ⟨#[107]⟩ := by decide +kernel
  rw [ek]
  have at_n : (txt (T1 n m)).cps.toList[n]? = some 107 := by
    rw [txt_list]; unfold T1
    rw [List.getElem?_append_right (by simp)]; simp
  have low : ∀ k, k < n → (txt (T1 n m)).cps.toList[k]? = some 34 := by
    intro k hk
    rw [txt_list]; unfold T1
    rw [List.getElem?_append_left (by simpa using hk)]; simp [hk]
  rcases find_whole (txt (T1 n m)) ⟨#[107]⟩ with ⟨_, h⟩ | ⟨i, e, hi, hn⟩
  · exact absurd (at_sub1 at_n) (h n)
  · rw [e]
    have h1 := sub1_at hi
    rcases Nat.lt_trichotomy i n with q | q | q
    · rw [low i q] at h1; cases h1
    · rw [q]
    · exact absurd (at_sub1 at_n) (hn n q)
theorem find_T0 (n : Nat) : Txt.find (txt (T0 n)) (Str.ofString "k") = -1 := by
  have ek : Str.ofString "k" = ⟨#[107]⟩ := by decide +kernel
  rw [ek]
  rcases find_whole (txt (T0 n)) ⟨#[107]⟩ with ⟨e, _⟩ | ⟨i, e, hi, hn⟩
  · exact e
  · have h1 := sub1_at hi
    rw [txt_list] at h1
    unfold T0 at h1
    have h2 := List.mem_of_getElem? h1
    have := List.eq_of_mem_replicate h2
    cases this
theorem mul_is : ∀ n : Int, 0 ≤ n → n < 64 → (Txt.mul (Str.ofString "\"") n == txt (T0 n.toNat)) = true := all_int (N := 64) (by decide +kernel)
section
variable {prog : Program} {w : World} {A : Around} {E : Value → Shared → Prop} {s : Shared} {Q : Value → Shared → Prop} {t u : Tok}
theorem mul_q {n : Int} (h0 : 0 ≤ n) (h1 : n < 64) (h : ∀ t' k, Q (.str (txt (T0 n.toNat)) t') { s with toks := k }) :
    wpAny (model prog w) A (binaryOp .Mult (.str (Str.ofString "\"") t) (.int n u)) Q E s := by
  refine KXi.mul (n := 1) (by decide +kernel) (by decide) (by omega) (by omega) fun t' k _ _ => ?_
  rw [eq_of_beq (mul_is n h0 h1)]
  exact h t' k
theorem add_txt {x y : List Nat} (hl : x.length + y.length ≤ 1000) (h : ∀ t' k, Q (.str (txt (x ++ y)) t') { s with toks := k }) :
    wpAny (model prog w) A (binaryOp .Add (.str (txt x) t) (.str (txt y) u)) Q E s := by
  refine PyProof.Rows.add_str (fun t' k => ?_) (by rw [len_txt, len_txt, sizeLine_eq]; omega)
  rw [txt_add]
  exact h t' k
theorem add_k {x : List Nat} (hl : x.length ≤ 900) (h : ∀ t' k, Q (.str (txt (x ++ [107])) t') { s with toks := k }) :
    wpAny (model prog w) A (binaryOp .Add (.str (txt x) t) (.str (Str.ofString "k") u)) Q E s := by
  rw [k_is_txt]
  exact add_txt (by simp only [List.length_singleton]; omega) h
theorem add_T1 {n m : Nat} (hl : n + m ≤ 900) (h : ∀ t' k, Q (.str (txt (T1 n m)) t') { s with toks := k }) :
    wpAny (model prog w) A (binaryOp .Add (.str (txt (T0 n ++ [107])) t) (.str (txt (T0 m)) u)) Q E s := by
  refine add_txt (by simp only [List.length_append, List.length_singleton, len_T0]; omega) fun t' k => ?_
  have e : (T0 n ++ [107]) ++ T0 m = T1 n m := by simp [T0, T1]
  rw [e]
  exact h t' k
theorem add_head {x : List Nat} (hl : x.length ≤ 900) (h : ∀ t' k, Q (.str (txt (head5 ++ x)) t') { s with toks := k }) :
    wpAny (model prog w) A (binaryOp .Add (.str (Str.ofString "257 \"") t) (.str (txt x) u)) Q E s := by
  rw [head_is]
  exact add_txt (by show 5 + x.length ≤ 1000; omega) h
end
/-! floats: what is asked of the colours -/
def r8 (x : UInt64) : Int := Flt.toInt Float64.nearestOf (Float64.mul x (Float64.ofInt 8))
def hls1 (m : Int) : T3 := hlsF (q8 m) 0x3fe0000000000000 0x3ff0000000000000
def tlF (m : Int) : T3 := backL (hls1 m).1 (hls1 m).2.1 (hls1 m).2.2
def nearF (x y : UInt64) : Bool := Float64.cmp (Float64.abs (Float64.sub x y)) 0x3eb0c6f7a0b5ed8d == some .lt
def farOk (c : T3) (m : Int) : Bool :=
  Float64.isFinite (Float64.mul c.1 (Float64.ofInt 8)) && decide ((r8 c.1).natAbs < 2 ^ 60) && nearF (Float64.mul c.1 (Float64.ofInt 8)) (Float64.ofInt (r8 c.1)) && nearF c.2.1 0x3fe0000000000000 && nearF c.2.2 0x3ff0000000000000 && Int.fmod (r8 c.1) 8 == m % 8
def otherOk (m : Int) : Bool := backLOk (hls1 m) && farOk (tlF m) m
theorem oo0 : allR (fun m => otherOk m) 0 8 = true := by decide +kernel
theorem oo1 : allR (fun m => otherOk m) 8 8 = true := by decide +kernel
theorem oo2 : allR (fun m => otherOk m) 16 8 = true := by decide +kernel
theorem oo3 : allR (fun m => otherOk m) 24 8 = true := by decide +kernel
theorem oo4 : allR (fun m => otherOk m) 32 8 = true := by decide +kernel
theorem oo5 : allR (fun m => otherOk m) 40 8 = true := by decide +kernel
theorem oo6 : allR (fun m => otherOk m) 48 8 = true := by decide +kernel
theorem oo7 : allR (fun m => otherOk m) 56 8 = true := by decide +kernel
theorem other_ok : ∀ m : Int, 0 ≤ m → m < 64 → otherOk m = true := all_64 (p := fun m => otherOk m) oo0 oo1 oo2 oo3 oo4 oo5 oo6 oo7
theorem hls_ok : hlsOk 0x3fe0000000000000 0x3ff0000000000000 = true := by decide +kernel
def placeOk (j : Int) : Bool := Float64.isFinite (Float64.mul (q8 j) (Float64.ofInt 8)) && r8 (q8 j) == j && !(Float64.cmp (q8 j) (q8 j) != some .eq)
theorem place_ok : ∀ j : Int, 0 ≤ j → j < 8 → placeOk j = true := all_int (N := 8) (by decide +kernel)
theorem one_one : (Float64.cmp 0x3ff0000000000000 0x3ff0000000000000 != some .eq) = false := by decide +kernel
/-! the contracts at the values that the law uses -/
theorem parse_txt (w : World) (x : List Nat) (t : Tok) (hx : x.length ≤ 900) : Ctr 2 w 81 [.str (txt (head5 ++ x)) t] (OneS (txt (scan x))) := by
  have hl : (txt (head5 ++ x)).length = 5 + x.length := by rw [len_txt, List.length_append]; rfl
  have e := parse_ctr w (txt (head5 ++ x)) t (by omega)
    (slice_to (by decide) (by omega) (by rw [txt_list, s257]; rfl)) (slice_ofs (by decide) (by decide) (by omega) (by rw [txt_list, sBlank]; rfl)) (by omega)
  have d : (txt (head5 ++ x)).cps.toList.drop 5 = x := by rw [txt_list]; rfl
  rw [d] at e
  exact e
theorem hsv_at (w : World) (n : Int) (s' : UInt64) (t1 t2 t3 : Tok) (ok : seenOk n s' = true) : Ctr 2 w 49 [.float (q8 n) t1, .float s' t2, .float 0x3ff0000000000000 t3] (Tup3 (hsvF (q8 n) s' 0x3ff0000000000000)) :=
  hsv_ctr w _ _ _ _ _ _ (by simp only [seenOk, Bool.and_eq_true] at ok; exact ok.1)
theorem back_at (w : World) (n : Int) (s' : UInt64) (t1 t2 t3 : Tok) (ok : seenOk n s' = true) : Ctr 2 w 42 [.float (hsvF (q8 n) s' 0x3ff0000000000000).1 t1, .float (hsvF (q8 n) s' 0x3ff0000000000000).2.1 t2, .float (hsvF (q8 n) s' 0x3ff0000000000000).2.2 t3] (Tup3P (q8 (n % 8), s', 0x3ff0000000000000)) := by
  simp only [seenOk, Bool.and_eq_true] at ok
  have e := back_ctr w (hsvF (q8 n) s' 0x3ff0000000000000).1 (hsvF (q8 n) s' 0x3ff0000000000000).2.1 (hsvF (q8 n) s' 0x3ff0000000000000).2.2 t1 t2 t3 ok.2.1
  rw [eq_of_beq ok.2.2] at e
  exact e
theorem hls_at (w : World) (m : Int) (t1 t2 t3 : Tok) : Ctr 3 w 28 [.float (q8 m) t1, .float 0x3fe0000000000000 t2, .float 0x3ff0000000000000 t3] (Tup3 (hls1 m)) := hls_ctr w _ _ _ _ _ _ hls_ok
theorem backL_at (w : World) (m : Int) (t1 t2 t3 : Tok) (ok : otherOk m = true) : Ctr 2 w 21 [.float (hls1 m).1 t1, .float (hls1 m).2.1 t2, .float (hls1 m).2.2 t3] (Tup3 (tlF m)) := by
  simp only [otherOk, Bool.and_eq_true] at ok
  exact backL_ctr w _ _ _ _ _ _ ok.1
set_option maxRecDepth 100000 in
set_option maxHeartbeats 8000000 in
theorem near_ff (w : World) (x y : UInt64) (t1 t2 : Tok) (ok : nearF x y = true) : Ctr 2 w 88 [.float x t1, .float y t2] (OneB true) := by
  unfold Ctr PG LS; k_fill; k_with_none; w_top off
  intro mean mg mb dp un gd cn cs a ccd cl outer A₀ base h₀ L m news s Q E B F X N T hk hd hu hret
  refine wpAny_call ?_
  k_dflt ktr_enter
  k_steps
  all_goals (
    refine oneB_ret hret ?_ (by assumption) (by assumption)
    exact ok.symm)
set_option maxRecDepth 100000 in
set_option maxHeartbeats 8000000 in
theorem near_fi (w : World) (x : UInt64) (i : Int) (t1 t2 : Tok) (hi : i.natAbs < 2 ^ 60) (ok : nearF x (Float64.ofInt i) = true) : Ctr 2 w 88 [.float x t1, .int i t2] (OneB true) := by
  unfold Ctr PG LS; k_fill; k_with_none; w_top off
  intro mean mg mb dp un gd cn cs a ccd cl outer A₀ base h₀ L m news s Q E B F X N T hk hd hu hret
  have ho := over_not hi
  refine wpAny_call ?_
  k_dflt ktr_enter
  k_steps
  all_goals (
    refine oneB_ret hret ?_ (by assumption) (by assumption)
    exact ok.symm)
section
variable {prog : Program} {w : World} {A : Around} {E : Value → Shared → Prop} {s : Shared} {Q : Value → Shared → Prop} {t u : Tok} {n m : Int}
theorem find1_step (h0 : 0 ≤ n) (h : Q (.int n s.toks) { s with toks := s.toks + 1 }) : wpAny (model prog w) A (call (.builtin "str.find") [.str (txt (T1 n.toNat m.toNat)) t, .str (Str.ofString "k") u]) Q E s := by
  refine SC.find ?_
  have e : ((n.toNat : Nat) : Int) = n := by omega
  rw [find_T1, e]
  exact h
theorem find0_step (h : Q (.int (-1) s.toks) { s with toks := s.toks + 1 }) : wpAny (model prog w) A (call (.builtin "str.find") [.str (txt (T0 n.toNat)) t, .str (Str.ofString "k") u]) Q E s := by
  refine SC.find ?_
  rw [find_T0]
  exact h
theorem len1_step (h0 : 0 ≤ n) (h1 : n < 64) (h2 : 0 ≤ m) (h3 : m < 64) (h : Q (.int (n + 1 + m) (s.toks + 1)) { s with toks := s.toks + 1 + 1 }) : wpAny (model prog w) A (call (.builtin "len") [.str (txt (T1 n.toNat m.toNat)) t]) Q E s := by
  have e : ((txt (T1 n.toNat m.toNat)).length : Int) = n + 1 + m := by rw [len_txt, len_T1]; omega
  refine SBL.len (by omega) ?_
  rw [e]
  exact h
theorem len0_step (h0 : 0 ≤ n) (h1 : n < 64) (h : Q (.int n (s.toks + 1)) { s with toks := s.toks + 1 + 1 }) : wpAny (model prog w) A (call (.builtin "len") [.str (txt (T0 n.toNat)) t]) Q E s := by
  have e : ((txt (T0 n.toNat)).length : Int) = n := by rw [len_txt, len_T0]; omega
  refine SBL.len (by omega) ?_
  rw [e]
  exact h
end
/-- a tuple of a colour's tuple and, where there is one, another's -/
def Seen1 (n m : Int) (tl : Led) (r : Value) : Prop := ∃ D D1 D2 t1 t2 t3 t4 t5 t6, r = .ref D ∧ tl = [(D, tupO #[.ref D1, .ref D2]), (D2, tupO #[.float (hls1 m).1 t4, .float (hls1 m).2.1 t5, .float (hls1 m).2.2 t6]), (D1, tupO #[.float (hsvF (q8 n) 0x3ff0000000000000 0x3ff0000000000000).1 t1, .float (hsvF (q8 n) 0x3ff0000000000000 0x3ff0000000000000).2.1 t2, .float (hsvF (q8 n) 0x3ff0000000000000 0x3ff0000000000000).2.2 t3])]
def Seen0 (n : Int) (tl : Led) (r : Value) : Prop := ∃ D D1 t1 t2 t3, r = .ref D ∧ tl = [(D, tupO #[.ref D1, .none]), (D1, tupO #[.float (hsvF (q8 n) 0x3fe0000000000000 0x3ff0000000000000).1 t1, .float (hsvF (q8 n) 0x3fe0000000000000 0x3ff0000000000000).2.1 t2, .float (hsvF (q8 n) 0x3fe0000000000000 0x3ff0000000000000).2.2 t3])]
section
variable {Q : Value → Shared → Prop} {h₀ : Heap} {L : Addr} {mm : Str → Option Value} {news : Led} {s : Shared} {D D1 D2 : Addr} {h' : Heap} {tk : Nat} {n m X : Int} {t1 t2 t3 t4 t5 t6 : Tok}
theorem seen1_ret
    (hret : ∀ (r : Value) (tl : Led) (h' : Heap) (tk' : Nat), Fr h₀ L h' mm → News h₀ L h' (tl ++ news) → (∀ p ∈ tl, ∀ q ∈ news, q.1 < p.1) → Seen1 n m tl r → Q r { s with heap := h', toks := tk' })
    (e : X = m) (F : Fr h₀ L h' mm) (N : News h₀ L h' ((D, tupO #[.ref D1, .ref D2]) :: (D2, tupO #[.float (hls1 X).1 t4, .float (hls1 X).2.1 t5, .float (hls1 X).2.2 t6]) :: (D1, tupO #[.float (hsvF (q8 n) 0x3ff0000000000000 0x3ff0000000000000).1 t1, .float (hsvF (q8 n) 0x3ff0000000000000 0x3ff0000000000000).2.1 t2, .float (hsvF (q8 n) 0x3ff0000000000000 0x3ff0000000000000).2.2 t3]) :: news))
    (l1 : ∀ q ∈ news, q.1 < D1) (l2 : D1 < D2 ∧ AllLt D2 news) (l3 : D2 < D ∧ D1 < D ∧ AllLt D news) : Q (.ref D) { s with heap := h', toks := tk } := by
  subst e
  refine hret _ [_, _, _] _ _ F N (fun p hp q hq => ?_) ⟨D, D1, D2, _, _, _, _, _, _, rfl, rfl⟩
  rcases List.mem_cons.mp hp with rfl | hp
  · exact kst_ltOf l3.2.2 q hq
  rcases List.mem_cons.mp hp with rfl | hp
  · exact kst_ltOf l2.2 q hq
  rw [List.mem_singleton.mp hp]
  exact l1 q hq
theorem seen0_ret
    (hret : ∀ (r : Value) (tl : Led) (h' : Heap) (tk' : Nat), Fr h₀ L h' mm → News h₀ L h' (tl ++ news) → (∀ p ∈ tl, ∀ q ∈ news, q.1 < p.1) → Seen0 n tl r → Q r { s with heap := h', toks := tk' })
    (F : Fr h₀ L h' mm) (N : News h₀ L h' ((D, tupO #[.ref D1, .none]) :: (D1, tupO #[.float (hsvF (q8 n) 0x3fe0000000000000 0x3ff0000000000000).1 t1, .float (hsvF (q8 n) 0x3fe0000000000000 0x3ff0000000000000).2.1 t2, .float (hsvF (q8 n) 0x3fe0000000000000 0x3ff0000000000000).2.2 t3]) :: news))
    (l1 : ∀ q ∈ news, q.1 < D1) (l3 : D1 < D ∧ AllLt D news) : Q (.ref D) { s with heap := h', toks := tk } := by
  refine hret _ [_, _] _ _ F N (fun p hp q hq => ?_) ⟨D, D1, _, _, _, rfl, rfl⟩
  rcases List.mem_cons.mp hp with rfl | hp
  · exact kst_ltOf l3.2 q hq
  rw [List.mem_singleton.mp hp]
  exact l1 q hq
end
set_option maxRecDepth 100000 in
set_option maxHeartbeats 8000000 in
theorem seen1_ctr (w : World) (n m : Int) (t : Tok) (hn0 : 0 ≤ n) (hn1 : n < 64) (hm0 : 0 ≤ m) (hm1 : m < 64) : Ctr 4 w 95 [.str (txt (T1 n.toNat m.toNat)) t] (Seen1 n m) := by
  unfold Ctr PG LS; k_fill; k_with_none; w_top off
  k_with "call builtin:str.find cons nil" => (refine find1_step (by assumption) ?_)
  k_with "call builtin:len cons nil" => (refine len1_step (by assumption) (by assumption) (by assumption) (by assumption) ?_)
  k_with "call ref cons nil" => (k_here; (with_reducible show wpAny _ _ (call (Value.ref 49) _) _ _ _); k_dflt (refine Ctr.use (by k_asm) (by k_asm) (by k_asm) (by k_asm) (by k_asm) (hsv_at _ _ _ _ _ _ (by assumption)) (by first | exact rfl | assumption) (by ktr_room) (by ktr_units) ?_; k_whole); intro r9 tl9 h9 tk9 F9 N9 l9 o9; k_dflt (obtain ⟨D9, t7, t8, t9, e9, e8⟩ := o9; subst e9; subst e8; replace l9 := l9 _ (List.mem_singleton_self _); (try dsimp only at l9); (try k_lt l9)); (try simp only [List.cons_append, List.nil_append] at N9); (try dsimp only); (try k_fold))
  k_with "call ref cons nil" => (k_here; (with_reducible show wpAny _ _ (call (Value.ref 28) _) _ _ _); k_dflt (refine Ctr.use (by k_asm) (by k_asm) (by k_asm) (by k_asm) (by k_asm) (hls_at _ _ _ _ _) (by first | exact rfl | assumption) (by ktr_room) (by ktr_units) ?_; k_whole); intro r9 tl9 h9 tk9 F9 N9 l9 o9; k_dflt (obtain ⟨D9, t7, t8, t9, e9, e8⟩ := o9; subst e9; subst e8; replace l9 := l9 _ (List.mem_singleton_self _); (try dsimp only at l9); (try k_lt l9)); (try simp only [List.cons_append, List.nil_append] at N9); (try dsimp only); (try k_fold))
  intro mean mg mb dp un gd cn cs a ccd cl outer A₀ base h₀ L mm news s Q E B F X N T hk hd hu hret
  have ok1 := seen_one n hn0 hn1
  refine wpAny_call ?_
  k_dflt ktr_enter
  k_steps
  all_goals exact seen1_ret (X := n + 1 + m - n - 1) hret (by omega) (by assumption) (by assumption) (by assumption) (by assumption) (by assumption)
set_option maxRecDepth 100000 in
set_option maxHeartbeats 8000000 in
theorem seen0_ctr (w : World) (n : Int) (t : Tok) (hn0 : 0 ≤ n) (hn1 : n < 64) : Ctr 4 w 95 [.str (txt (T0 n.toNat)) t] (Seen0 n) := by
  unfold Ctr PG LS; k_fill; k_with_none; w_top off
  k_with "call builtin:str.find cons nil" => (refine find0_step ?_)
  k_with "call builtin:len cons nil" => (refine len0_step (by assumption) (by assumption) ?_)
  k_with "call ref cons nil" => (k_here; (with_reducible show wpAny _ _ (call (Value.ref 49) _) _ _ _); k_dflt (refine Ctr.use (by k_asm) (by k_asm) (by k_asm) (by k_asm) (by k_asm) (hsv_at _ _ _ _ _ _ (by assumption)) (by first | exact rfl | assumption) (by ktr_room) (by ktr_units) ?_; k_whole); intro r9 tl9 h9 tk9 F9 N9 l9 o9; k_dflt (obtain ⟨D9, t7, t8, t9, e9, e8⟩ := o9; subst e9; subst e8; replace l9 := l9 _ (List.mem_singleton_self _); (try dsimp only at l9); (try k_lt l9)); (try simp only [List.cons_append, List.nil_append] at N9); (try dsimp only); (try k_fold))
  intro mean mg mb dp un gd cn cs a ccd cl outer A₀ base h₀ L mm news s Q E B F X N T hk hd hu hret
  have ok1 := seen_half n hn0 hn1
  refine wpAny_call ?_
  k_dflt ktr_enter
  k_steps
  all_goals exact seen0_ret hret (by assumption) (by assumption) (by assumption) (by assumption)
/-- the floats of a list, none of a token of nought -/
inductive FA : List Value → List UInt64 → Prop
  | nil : FA [] []
  | cons (x : UInt64) (t : Tok) (ht : 0 < t) {vs : List Value} {xs : List UInt64} : FA vs xs → FA (.float x t :: vs) (x :: xs)
theorem FA.push {vs : List Value} {xs : List UInt64} (h : FA vs xs) (x : UInt64) (t : Tok) (ht : 0 < t) : FA (vs ++ [.float x t]) (xs ++ [x]) := by
  induction h with
  | nil => exact .cons x t ht .nil
  | cons y u hu _ ih => exact .cons y u hu ih
theorem FA.len {vs : List Value} {xs : List UInt64} (h : FA vs xs) : vs.length = xs.length := by
  induction h with
  | nil => rfl
  | cons _ _ _ _ ih => simp [ih]
theorem ints_push {vs : List Value} {ns : List Int} (h : IntsAre vs ns) (n : Int) (t : Tok) : IntsAre (vs ++ [.int n t]) (ns ++ [n]) := IntsAre.append h (.cons _ _ .nil)
def placesL (x : Int) : Nat → List Int
  | 0 => []
  | t + 1 => placesL x t ++ [x / 2 ^ t % 8]
def sharesL (x : Int) : Nat → List UInt64
  | 0 => []
  | t + 1 => sharesL x t ++ [if x % 2 ^ t = 0 then 0x3ff0000000000000 else 0x3fe0000000000000]
def othersL (x y : Int) : Nat → List Int
  | 0 => []
  | t + 1 => if x % 2 ^ t = 0 then othersL x y t ++ [y / 2 ^ t % 8] else othersL x y t
def TX (x y : Int) (t : Nat) : Str := if x % 2 ^ t = 0 then txt (T1 (x / 2 ^ t).toNat (y / 2 ^ t).toNat) else txt (T0 (x / 2 ^ t).toNat)
theorem len_places (x : Int) : ∀ t, (placesL x t).length = t
  | 0 => rfl
  | t + 1 => by simp [placesL, len_places x t]
theorem len_shares (x : Int) : ∀ t, (sharesL x t).length = t
  | 0 => rfl
  | t + 1 => by simp [sharesL, len_shares x t]
theorem len_others (x y : Int) : ∀ t, (othersL x y t).length ≤ t
  | 0 => Nat.le_refl _
  | t + 1 => by
    unfold othersL
    have := len_others x y t
    split
    · simp only [List.length_append, List.length_singleton]; omega
    · omega
/-- what a turn changes: three lists and the text -/
structure St where
  vP : List Value
  nP : Nat
  vS : List Value
  nS : Nat
  vO : List Value
  nO : Nat
  tx : Str
  tt : Tok
def LInv (x y : Int) (t : Nat) (c : St) : Prop := IntsAre c.vP (placesL x t) ∧ FA c.vS (sharesL x t) ∧ IntsAre c.vO (othersL x y t) ∧ c.tx = TX x y t
theorem pow_pos (t : Nat) : (0 : Int) < 2 ^ t := by
  induction t with
  | zero => decide
  | succ t ih => rw [Int.pow_succ]; omega
theorem half_div (x : Int) (t : Nat) : x / 2 ^ (t + 1) = x / 2 ^ t / 2 := by
  rw [Int.pow_succ, Int.ediv_ediv_of_nonneg (Int.le_of_lt (pow_pos t))]
theorem half_mod {x : Int} {t : Nat} (h : x % 2 ^ t = 0) : x % 2 ^ (t + 1) = 0 ↔ (x / 2 ^ t) % 2 = 0 := by
  have hp := pow_pos t
  have e : x = 2 ^ t * (x / 2 ^ t) := by have := Int.mul_ediv_add_emod x (2 ^ t); omega
  rw [Int.pow_succ]
  constructor
  · intro h2
    have h3 := Int.dvd_of_emod_eq_zero h2
    rw [e] at h3
    exact Int.emod_eq_zero_of_dvd (Int.dvd_of_mul_dvd_mul_left (Int.ne_of_gt hp) h3)
  · intro h2
    have h3 := Int.dvd_of_emod_eq_zero h2
    apply Int.emod_eq_zero_of_dvd
    rw [e]
    exact Int.mul_dvd_mul_left _ h3
theorem half_not {x : Int} {t : Nat} (h : x % 2 ^ t ≠ 0) : x % 2 ^ (t + 1) ≠ 0 := by
  intro h2
  have h3 := Int.dvd_of_emod_eq_zero h2
  rw [Int.pow_succ] at h3
  exact h (Int.emod_eq_zero_of_dvd (Int.dvd_trans (Int.dvd_mul_right _ _) h3))
theorem toNat_half {n : Int} (h : 0 ≤ n) : (n / 2).toNat = n.toNat / 2 := by omega
theorem text1 {x y : Int} {t : Nat} (hx : 0 ≤ x) (hy : 0 ≤ y) (h : x % 2 ^ t = 0) : txt (scan (T1 (x / 2 ^ t).toNat (y / 2 ^ t).toNat)) = TX x y (t + 1) := by
  have hn : 0 ≤ x / 2 ^ t := Int.ediv_nonneg hx (Int.le_of_lt (pow_pos t))
  have hm : 0 ≤ y / 2 ^ t := Int.ediv_nonneg hy (Int.le_of_lt (pow_pos t))
  unfold TX
  rw [scan_T1, half_div, half_div, toNat_half hn, toNat_half hm]
  have e := half_mod h
  by_cases q : (x / 2 ^ t) % 2 = 0
  · rw [if_pos (by omega), if_pos (e.mpr q)]
  · rw [if_neg (by omega), if_neg (fun z => q (e.mp z))]
theorem text0 {x y : Int} {t : Nat} (hx : 0 ≤ x) (h : x % 2 ^ t ≠ 0) : txt (scan (T0 (x / 2 ^ t).toNat)) = TX x y (t + 1) := by
  have hn : 0 ≤ x / 2 ^ t := Int.ediv_nonneg hx (Int.le_of_lt (pow_pos t))
  unfold TX
  rw [scan_T0, half_div, toNat_half hn, if_neg (half_not h)]
theorem inv0 (x y : Int) (tt : Tok) : LInv x y 0 ⟨[], 0, [], 0, [], 0, txt (T1 x.toNat y.toNat), tt⟩ := by
  refine ⟨.nil, .nil, .nil, ?_⟩
  have e : x % 2 ^ 0 = 0 := by simp [Int.emod_one]
  show _ = TX x y 0
  unfold TX
  rw [if_pos e]
  simp
theorem inv1 {x y : Int} {t : Nat} {c : St} (hx : 0 ≤ x) (hy : 0 ≤ y) (hc : LInv x y t c) (h : x % 2 ^ t = 0) {n m f : Int} (hn : n = x / 2 ^ t) (hm : m = y / 2 ^ t) (hf : f = m % 8) (t1 t2 t3 tt : Tok) (ht : 0 < t2) (a b d : Nat) :
    LInv x y (t + 1) ⟨c.vP ++ [.int (n % 8) t1], a, c.vS ++ [.float 0x3ff0000000000000 t2], b, c.vO ++ [.int f t3], d, txt (scan (T1 n.toNat m.toNat)), tt⟩ := by
  subst hn hm hf
  obtain ⟨h1, h2, h3, _⟩ := hc
  refine ⟨ints_push h1 _ _, ?_, ?_, text1 hx hy h⟩
  · unfold sharesL; rw [if_pos h]; exact h2.push _ _ ht
  · show IntsAre _ (othersL x y (t + 1))
    unfold othersL; rw [if_pos h]; exact ints_push h3 _ _
theorem inv2 {x y : Int} {t : Nat} {c : St} (hx : 0 ≤ x) (hc : LInv x y t c) (h : x % 2 ^ t ≠ 0) {n : Int} (hn : n = x / 2 ^ t) (t1 t2 tt : Tok) (ht : 0 < t2) (a b : Nat) :
    LInv x y (t + 1) ⟨c.vP ++ [.int (n % 8) t1], a, c.vS ++ [.float 0x3fe0000000000000 t2], b, c.vO, c.nO, txt (scan (T0 n.toNat)), tt⟩ := by
  subst hn
  obtain ⟨h1, h2, h3, _⟩ := hc
  refine ⟨ints_push h1 _ _, ?_, ?_, text0 hx h⟩
  · unfold sharesL; rw [if_neg h]; exact h2.push _ _ ht
  · show IntsAre _ (othersL x y (t + 1))
    unfold othersL; rw [if_neg h]; exact h3
/-- the ledger at a turn's start -/
def LedL (P S O : Addr) (rest : Led) (c : St) : Led := (O, W.listOf c.vO.toArray c.nO) :: (S, W.listOf c.vS.toArray c.nS) :: (P, W.listOf c.vP.toArray c.nP) :: rest
def psL (c : St) : List (Str × Value) := [(Str.ofString "text", .str c.tx c.tt)]
def storedL : List Str := [Str.ofString "one", Str.ofString "other", Str.ofString "hue", Str.ofString "share", Str.ofString "value", Str.ofString "place", Str.ofString "turn", Str.ofString "light", Str.ofString "strength", Str.ofString "far"]
theorem tail_ne {d : Addr} {news own : Led} {adr : List Addr} (h1 : AllLt d news) (h2 : OwnOff own adr) (hd : d ∈ adr) : ∀ p ∈ news ++ own, p.1 ≠ d := by
  intro p hp
  rcases List.mem_append.mp hp with h | h
  · exact Nat.ne_of_lt (kst_ltOf h1 p h)
  · exact h2 p h d hd
section
variable {prog : Program} {w : World} {A : Around} {E : Value → Shared → Prop} {s : Shared} {Q : Value → Shared → Prop} {t u : Tok} {j m : Int}
theorem round_place (hA : A.handled = none) (h0 : 0 ≤ j) (h1 : j < 8) (h : Q (.int j s.toks) { s with toks := s.toks + 1 }) : wpAny (model prog w) A (call (.builtin "round") [.float (Float64.mul (q8 j) (Float64.ofInt 8)) t]) Q E s := by
  have ok := place_ok j h0 h1
  simp only [placeOk, Bool.and_eq_true] at ok
  have e : Flt.toInt Float64.nearestOf (Float64.mul (q8 j) (Float64.ofInt 8)) = j := eq_of_beq ok.1.2
  refine Flt.call_round_float hA (fun q => ?_) (fun q => ?_) fun _ => ?_
  · rw [Flt.not_nan_of_finite ok.1.1] at q; cases q
  · rw [Flt.not_inf_of_finite ok.1.1] at q; cases q
  · rw [e]; exact h
theorem round_far (hA : A.handled = none) (ok : otherOk m = true) (h : Q (.int (r8 (tlF m).1) s.toks) { s with toks := s.toks + 1 }) : wpAny (model prog w) A (call (.builtin "round") [.float (Float64.mul (tlF m).1 (Float64.ofInt 8)) t]) Q E s := by
  simp only [otherOk, farOk, Bool.and_eq_true] at ok
  have f := ok.2.1.1.1.1.1
  refine Flt.call_round_float hA (fun q => ?_) (fun q => ?_) fun _ => h
  · rw [Flt.not_nan_of_finite f] at q; cases q
  · rw [Flt.not_inf_of_finite f] at q; cases q
theorem ne_place (h0 : 0 ≤ j) (h1 : j < 8) (h : Q (.bool false) s) : wpAny (model prog w) A (compareOp .NotEq (.float (q8 j) t) (.float (Float64.ofFrac (decide (j < 0) != decide ((8 : Int) < 0)) j.natAbs (8 : Int).natAbs) u)) Q E s := by
  have ok := place_ok j h0 h1
  simp only [placeOk, Bool.and_eq_true, Bool.not_eq_true'] at ok
  refine AutoFloatOps.ne_0 ?_
  show Q (.bool (Float64.cmp (q8 j) (q8 j) != some Ordering.eq)) s
  rw [ok.2]
  exact h
theorem ne_ones (h : Q (.bool false) s) : wpAny (model prog w) A (compareOp .NotEq (.float 0x3ff0000000000000 t) (.float 0x3ff0000000000000 u)) Q E s := by
  refine AutoFloatOps.ne_0 ?_
  rw [one_one]
  exact h
end
theorem far_is {m : Int} (ok : otherOk m = true) : Int.fmod (r8 (tlF m).1) 8 = m % 8 := by
  simp only [otherOk, farOk, Bool.and_eq_true] at ok
  exact eq_of_beq ok.2.2
theorem near1_at (w : World) (m : Int) (t1 t2 : Tok) (ok : otherOk m = true) : Ctr 2 w 88 [.float (Float64.mul (tlF m).1 (Float64.ofInt 8)) t1, .int (r8 (tlF m).1) t2] (OneB true) := by
  simp only [otherOk, farOk, Bool.and_eq_true] at ok
  exact near_fi w _ _ _ _ (of_decide_eq_true ok.2.1.1.1.1.2) ok.2.1.1.1.2
theorem near2_at (w : World) (m : Int) (t1 t2 : Tok) (ok : otherOk m = true) : Ctr 2 w 88 [.float (tlF m).2.1 t1, .float 0x3fe0000000000000 t2] (OneB true) := by
  simp only [otherOk, farOk, Bool.and_eq_true] at ok
  exact near_ff w _ _ _ _ ok.2.1.1.2
theorem near3_at (w : World) (m : Int) (t1 t2 : Tok) (ok : otherOk m = true) : Ctr 2 w 88 [.float (tlF m).2.2 t1, .float 0x3ff0000000000000 t2] (OneB true) := by
  simp only [otherOk, farOk, Bool.and_eq_true] at ok
  exact near_ff w _ _ _ _ ok.2.1.2
section
/-- a call that reads one object of the ledger's -/
abbrev CtrL (k : Nat) (w : World) (f : Addr) (P : Addr) (o : Obj) (Out : Value → Prop) : Prop :=
  ∀ (mean : ExcName → Option Value) (mg mb : Str → Option Value) (dp un : Nat) (gd : Option (List Code)) (cn : Str) (cs : Scope) (a : Addr) (ccd : Value) (cl : List (Str × Addr)) (outer : List Env) (A₀ : Around) (base h₀ : Heap) (L : Addr) (m : Str → Option Value) (news : Led) (s : Shared)
    (Q E : Value → Shared → Prop),
    Below A₀ base outer h₀ → Fr h₀ L s.heap m → (hd.heap_39 w.params).In h₀ → News h₀ L s.heap news → Top hd.view_39 LS mean mg mb h₀ → cs.kind = .function → dp + k < recursionLimit → un + 8 * k < cLine → (P, o) ∈ news →
    (∀ (r : Value) (h' : Heap) (tk' : Nat), Fr h₀ L h' m → News h₀ L h' news → Out r → Q r { s with heap := h', toks := tk' }) →
    wpAny (model PG w) (ktrTop dp un gd cn cs L a ccd cl outer) (call (.ref f) [.ref P]) Q E s
theorem CtrL.use {k : Nat} {w : World} {f P : Addr} {o : Obj} {Out : Value → Prop} {mean : ExcName → Option Value} {mg mb : Str → Option Value} {dp un : Nat} {gd : Option (List Code)} {cn : Str} {cs : Scope} {a : Addr} {ccd : Value} {cl : List (Str × Addr)} {outer : List Env} {A₀ : Around} {base h₀ : Heap} {L : Addr} {m : Str → Option Value} {news : Led} {s : Shared}
    {Q E : Value → Shared → Prop} (B : Below A₀ base outer h₀) (F : Fr h₀ L s.heap m) (X : (hd.heap_39 w.params).In h₀) (N : News h₀ L s.heap news) (T : Top hd.view_39 LS mean mg mb h₀) (hm : (P, o) ∈ news) (C : CtrL k w f P o Out) (hk : cs.kind = .function) (hd : dp + k < recursionLimit) (hu : un + 8 * k < cLine)
    (h : ∀ (r : Value) (h' : Heap) (tk' : Nat), Fr h₀ L h' m → News h₀ L h' news → Out r → Q r { s with heap := h', toks := tk' }) :
    wpAny (model PG w) (ktrTop dp un gd cn cs L a ccd cl outer) (call (.ref f) [.ref P]) Q E s := C _ _ _ _ _ _ _ _ _ _ _ _ _ _ _ _ _ _ _ _ _ B F X N T hk hd hu hm h
theorem with_mem {h₀ h : Heap} {L : Addr} {p : Addr × Obj} {news : Led} (N : News h₀ L h news) (hm : p ∈ news) : News h₀ L h (p :: news) := by
  intro q hq
  rcases List.mem_cons.mp hq with rfl | hq
  · exact N _ hm
  · exact N _ hq
def IsI (c : Int) (r : Value) : Prop := ∃ t, r = .int c t
theorem isI_ret {Q : Value → Shared → Prop} {h₀ : Heap} {L : Addr} {m : Str → Option Value} {news : Led} {s : Shared} {h' : Heap} {tk : Nat} {c x : Int} {t : Tok} {q : Addr × Obj}
    (hret : ∀ (r : Value) (h' : Heap) (tk' : Nat), Fr h₀ L h' m → News h₀ L h' news → IsI c r → Q r { s with heap := h', toks := tk' })
    (e : x = c) (F : Fr h₀ L h' m) (N : News h₀ L h' (q :: news)) : Q (.int x t) { s with heap := h', toks := tk } := by
  subst e
  exact hret _ _ _ F (fun p hp => N p (List.mem_cons_of_mem _ hp)) ⟨_, rfl⟩
theorem off_of {I : Addr} {l : Led} (h : AllLt I l) : ∀ p ∈ l, p.1 ≠ I := fun p hp => Nat.ne_of_lt (kst_ltOf h p hp)
local macro_rules | `(tactic| walk_at "UnrEnd") => `(tactic| (k_dflt (refine' UnrEnd.intro ?f1 ?f2 _ (fun _ h9 => h9) ?f3 ?_; (case f1 => assumption); (case f2 => assumption); (case f3 => exact off_of (by assumption)))))
set_option maxRecDepth 100000 in
set_option maxHeartbeats 8000000 in
theorem num1 (w : World) (P : Addr) (nn : Nat) (a0 : Int) (t0 : Tok) : CtrL 2 w 102 P (W.listOf [.int a0 t0].toArray nn) (IsI (a0)) := by
  unfold CtrL PG LS; k_fill; k_with_none; w_top off
  intro mean mg mb dp un gd cn cs a ccd cl outer A₀ base h₀ L m news s Q E B F X N T hk hd hu hM hret
  have N2 := with_mem N hM
  clear N
  k_with_none
  refine wpAny_call ?_
  k_dflt ktr_enter
  k_steps
  all_goals (refine isI_ret hret ?_ (by assumption) (by assumption); first | rfl | simp)
set_option maxRecDepth 100000 in
set_option maxHeartbeats 8000000 in
theorem num2 (w : World) (P : Addr) (nn : Nat) (a0 a1 : Int) (t0 t1 : Tok) : CtrL 2 w 102 P (W.listOf [.int a0 t0, .int a1 t1].toArray nn) (IsI (a0 + Int.fdiv a1 4 * 8 * 1)) := by
  unfold CtrL PG LS; k_fill; k_with_none; w_top off
  intro mean mg mb dp un gd cn cs a ccd cl outer A₀ base h₀ L m news s Q E B F X N T hk hd hu hM hret
  have N2 := with_mem N hM
  clear N
  k_with_none
  refine wpAny_call ?_
  k_dflt ktr_enter
  k_steps
  all_goals (refine isI_ret hret ?_ (by assumption) (by assumption); first | rfl | simp)
set_option maxRecDepth 100000 in
set_option maxHeartbeats 8000000 in
theorem num3 (w : World) (P : Addr) (nn : Nat) (a0 a1 a2 : Int) (t0 t1 t2 : Tok) : CtrL 2 w 102 P (W.listOf [.int a0 t0, .int a1 t1, .int a2 t2].toArray nn) (IsI (a0 + Int.fdiv a1 4 * 8 * 1 + Int.fdiv a2 4 * 8 * 2)) := by
  unfold CtrL PG LS; k_fill; k_with_none; w_top off
  intro mean mg mb dp un gd cn cs a ccd cl outer A₀ base h₀ L m news s Q E B F X N T hk hd hu hM hret
  have N2 := with_mem N hM
  clear N
  k_with_none
  refine wpAny_call ?_
  k_dflt ktr_enter
  k_steps
  all_goals (refine isI_ret hret ?_ (by assumption) (by assumption); first | rfl | simp)
set_option maxRecDepth 100000 in
set_option maxHeartbeats 8000000 in
theorem num4 (w : World) (P : Addr) (nn : Nat) (a0 a1 a2 a3 : Int) (t0 t1 t2 t3 : Tok) : CtrL 2 w 102 P (W.listOf [.int a0 t0, .int a1 t1, .int a2 t2, .int a3 t3].toArray nn) (IsI (a0 + Int.fdiv a1 4 * 8 * 1 + Int.fdiv a2 4 * 8 * 2 + Int.fdiv a3 4 * 8 * 4)) := by
  unfold CtrL PG LS; k_fill; k_with_none; w_top off
  intro mean mg mb dp un gd cn cs a ccd cl outer A₀ base h₀ L m news s Q E B F X N T hk hd hu hM hret
  have N2 := with_mem N hM
  clear N
  k_with_none
  refine wpAny_call ?_
  k_dflt ktr_enter
  k_steps
  all_goals (refine isI_ret hret ?_ (by assumption) (by assumption); first | rfl | simp)
set_option maxRecDepth 100000 in
set_option maxHeartbeats 8000000 in
theorem num5 (w : World) (P : Addr) (nn : Nat) (a0 a1 a2 a3 a4 : Int) (t0 t1 t2 t3 t4 : Tok) : CtrL 2 w 102 P (W.listOf [.int a0 t0, .int a1 t1, .int a2 t2, .int a3 t3, .int a4 t4].toArray nn) (IsI (a0 + Int.fdiv a1 4 * 8 * 1 + Int.fdiv a2 4 * 8 * 2 + Int.fdiv a3 4 * 8 * 4 + Int.fdiv a4 4 * 8 * 8)) := by
  unfold CtrL PG LS; k_fill; k_with_none; w_top off
  intro mean mg mb dp un gd cn cs a ccd cl outer A₀ base h₀ L m news s Q E B F X N T hk hd hu hM hret
  have N2 := with_mem N hM
  clear N
  k_with_none
  refine wpAny_call ?_
  k_dflt ktr_enter
  k_steps
  all_goals (refine isI_ret hret ?_ (by assumption) (by assumption); first | rfl | simp)
end
theorem ctrL_to {k : Nat} {w : World} {f P : Addr} {o : Obj} {a b : Int} (C : CtrL k w f P o (IsI a)) (e : a = b) : CtrL k w f P o (IsI b) := by subst e; exact C
theorem sum5 (v : Int) (h0 : 0 ≤ v) (h1 : v < 64) : v % 8 + Int.fdiv (v / 2 % 8) 4 * 8 * 1 + Int.fdiv (v / 4 % 8) 4 * 8 * 2 + Int.fdiv (v / 8 % 8) 4 * 8 * 4 + Int.fdiv (v / 16 % 8) 4 * 8 * 8 = v :=
  of_decide_eq_true (all_int (N := 64) (p := fun v => decide (v % 8 + Int.fdiv (v / 2 % 8) 4 * 8 * 1 + Int.fdiv (v / 4 % 8) 4 * 8 * 2 + Int.fdiv (v / 8 % 8) 4 * 8 * 4 + Int.fdiv (v / 16 % 8) 4 * 8 * 8 = v)) (by decide +kernel) v h0 h1)
theorem sum4 (v : Int) (h0 : 0 ≤ v) (h1 : v < 64) : v % 8 + Int.fdiv (v / 2 % 8) 4 * 8 * 1 + Int.fdiv (v / 4 % 8) 4 * 8 * 2 + Int.fdiv (v / 8 % 8) 4 * 8 * 4 = v % 64 :=
  of_decide_eq_true (all_int (N := 64) (p := fun v => decide (v % 8 + Int.fdiv (v / 2 % 8) 4 * 8 * 1 + Int.fdiv (v / 4 % 8) 4 * 8 * 2 + Int.fdiv (v / 8 % 8) 4 * 8 * 4 = v % 64)) (by decide +kernel) v h0 h1)
theorem sum3 (v : Int) (h0 : 0 ≤ v) (h1 : v < 64) : v % 8 + Int.fdiv (v / 2 % 8) 4 * 8 * 1 + Int.fdiv (v / 4 % 8) 4 * 8 * 2 = v % 32 :=
  of_decide_eq_true (all_int (N := 64) (p := fun v => decide (v % 8 + Int.fdiv (v / 2 % 8) 4 * 8 * 1 + Int.fdiv (v / 4 % 8) 4 * 8 * 2 = v % 32)) (by decide +kernel) v h0 h1)
theorem sum2 (v : Int) (h0 : 0 ≤ v) (h1 : v < 64) : v % 8 + Int.fdiv (v / 2 % 8) 4 * 8 * 1 = v % 16 :=
  of_decide_eq_true (all_int (N := 64) (p := fun v => decide (v % 8 + Int.fdiv (v / 2 % 8) 4 * 8 * 1 = v % 16)) (by decide +kernel) v h0 h1)
theorem numX (w : World) (P : Addr) (nn : Nat) (v : Int) (h0 : 0 ≤ v) (h1 : v < 64) (t0 t1 t2 t3 t4 : Tok) : CtrL 2 w 102 P (W.listOf [.int (v % 8) t0, .int (v / 2 % 8) t1, .int (v / 4 % 8) t2, .int (v / 8 % 8) t3, .int (v / 16 % 8) t4].toArray nn) (IsI (v)) :=
  ctrL_to (num5 w P nn _ _ _ _ _ t0 t1 t2 t3 t4) (sum5 v h0 h1)
theorem numY4 (w : World) (P : Addr) (nn : Nat) (v : Int) (h0 : 0 ≤ v) (h1 : v < 64) (t0 t1 t2 t3 : Tok) : CtrL 2 w 102 P (W.listOf [.int (v % 8) t0, .int (v / 2 % 8) t1, .int (v / 4 % 8) t2, .int (v / 8 % 8) t3].toArray nn) (IsI (v % 64)) :=
  ctrL_to (num4 w P nn _ _ _ _ t0 t1 t2 t3) (sum4 v h0 h1)
theorem numY3 (w : World) (P : Addr) (nn : Nat) (v : Int) (h0 : 0 ≤ v) (h1 : v < 64) (t0 t1 t2 : Tok) : CtrL 2 w 102 P (W.listOf [.int (v % 8) t0, .int (v / 2 % 8) t1, .int (v / 4 % 8) t2].toArray nn) (IsI (v % 32)) :=
  ctrL_to (num3 w P nn _ _ _ t0 t1 t2) (sum3 v h0 h1)
theorem numY2 (w : World) (P : Addr) (nn : Nat) (v : Int) (h0 : 0 ≤ v) (h1 : v < 64) (t0 t1 : Tok) : CtrL 2 w 102 P (W.listOf [.int (v % 8) t0, .int (v / 2 % 8) t1].toArray nn) (IsI (v % 16)) :=
  ctrL_to (num2 w P nn _ _ t0 t1) (sum2 v h0 h1)
theorem numY1 (w : World) (P : Addr) (nn : Nat) (y : Int) (t0 : Tok) : CtrL 2 w 102 P (W.listOf [.int (y % 8) t0].toArray nn) (IsI (y % 8)) := num1 w P nn _ t0
theorem ints_cons {vs : List Value} {a : Int} {l : List Int} (h : IntsAre vs (a :: l)) : ∃ t r, vs = .int a t :: r ∧ IntsAre r l := by
  cases h with | cons _ t h => exact ⟨t, _, rfl, h⟩
theorem ints_nil {vs : List Value} (h : IntsAre vs []) : vs = [] := by cases h; rfl
theorem ints1 {vs : List Value} {a : Int} (h : IntsAre vs [a]) : ∃ t0, vs = [.int a t0] := by
  obtain ⟨t, r, rfl, h0⟩ := ints_cons h
  exact ⟨t, by rw [ints_nil h0]⟩
theorem ints2 {vs : List Value} {a b : Int} (h : IntsAre vs [a, b]) : ∃ t0 t1, vs = [.int a t0, .int b t1] := by
  obtain ⟨t, r, rfl, h0⟩ := ints_cons h
  obtain ⟨t1, rfl⟩ := ints1 h0
  exact ⟨t, t1, rfl⟩
theorem ints3 {vs : List Value} {a b c : Int} (h : IntsAre vs [a, b, c]) : ∃ t0 t1 t2, vs = [.int a t0, .int b t1, .int c t2] := by
  obtain ⟨t, r, rfl, h0⟩ := ints_cons h
  obtain ⟨t1, t2, rfl⟩ := ints2 h0
  exact ⟨t, t1, t2, rfl⟩
theorem ints4 {vs : List Value} {a b c d : Int} (h : IntsAre vs [a, b, c, d]) : ∃ t0 t1 t2 t3, vs = [.int a t0, .int b t1, .int c t2, .int d t3] := by
  obtain ⟨t, r, rfl, h0⟩ := ints_cons h
  obtain ⟨t1, t2, t3, rfl⟩ := ints3 h0
  exact ⟨t, t1, t2, t3, rfl⟩
theorem ints5 {vs : List Value} {a b c d e : Int} (h : IntsAre vs [a, b, c, d, e]) : ∃ t0 t1 t2 t3 t4, vs = [.int a t0, .int b t1, .int c t2, .int d t3, .int e t4] := by
  obtain ⟨t, r, rfl, h0⟩ := ints_cons h
  obtain ⟨t1, t2, t3, t4, rfl⟩ := ints4 h0
  exact ⟨t, t1, t2, t3, t4, rfl⟩
theorem fa_cons {vs : List Value} {a : UInt64} {l : List UInt64} (h : FA vs (a :: l)) : ∃ t r, vs = .float a t :: r ∧ FA r l := by
  cases h with | cons _ t _ h => exact ⟨t, _, rfl, h⟩
theorem fa_nil {vs : List Value} (h : FA vs []) : vs = [] := by cases h; rfl
theorem fa5 {vs : List Value} {a b c d e : UInt64} (h : FA vs [a, b, c, d, e]) : ∃ t0 t1 t2 t3 t4, vs = [.float a t0, .float b t1, .float c t2, .float d t3, .float e t4] := by
  obtain ⟨t0, r0, rfl, h0⟩ := fa_cons h
  obtain ⟨t1, r1, rfl, h1⟩ := fa_cons h0
  obtain ⟨t2, r2, rfl, h2⟩ := fa_cons h1
  obtain ⟨t3, r3, rfl, h3⟩ := fa_cons h2
  obtain ⟨t4, r4, rfl, h4⟩ := fa_cons h3
  exact ⟨t0, t1, t2, t3, t4, by rw [fa_nil h4]⟩
theorem places5 (x : Int) : placesL x 5 = [x % 8, x / 2 % 8, x / 4 % 8, x / 8 % 8, x / 16 % 8] := by simp [placesL]
theorem ne_same {prog : Program} {w : World} {A : Around} {E : Value → Shared → Prop} {s : Shared} {Q : Value → Shared → Prop} {x : Int} {t u : Tok} (h : Q (.bool false) s) : wpAny (model prog w) A (compareOp .NotEq (.int x t) (.int x u)) Q E s := by
  refine PyProof.Rows.ne_int ?_
  simpa using h
theorem news_list {h₀ h : Heap} {L a : Addr} {news : Led} {its : Array Value} {n : Nat} (N : News h₀ L h news) (hm : (a, W.listOf its n) ∈ news) : h.IsList a its := ⟨_, (N _ hm).1, rfl, n, rfl⟩
theorem ne_ints_same {prog : Program} {w : World} {A : Around} {E : Value → Shared → Prop} {s : Shared} {Q : Value → Shared → Prop} {a b : Addr} {vs us : List Value} {ns ms : List Int} (hl : s.heap.IsList a vs.toArray) (hl' : s.heap.IsList b us.toArray) (hi : IntsAre vs ns) (hi' : IntsAre us ms) (hu : A.units + 64 < cLine) (e : ns = ms)
    (h : Q (.bool false) s) : wpAny (model prog w) A (compareOp .NotEq (.ref a) (.ref b)) Q E s := by
  refine ne_intsK hl hi hl' hi' hu ?_
  rw [decide_eq_true e]
  exact h
theorem fdiv_pow (a : Int) (k : Nat) : Int.fdiv a (2 ^ k) = a / 2 ^ k := Int.fdiv_eq_ediv_of_nonneg _ (Int.le_of_lt (pow_pos k))
theorem fmod8 (a : Int) : Int.fmod a 8 = a % 8 := Int.fmod_eq_emod_of_nonneg _ (by decide)
theorem places_comp (x : Int) : [x % 8, x / 2 % 8, x / 4 % 8, x / 8 % 8, x / 16 % 8] = List.map (fun k : Int => (x.fdiv (2 ^ k.toNat)).fmod 8) (rangeKs 0 ((5 : Int) - 0).toNat) := by
  have e : rangeKs 0 ((5 : Int) - 0).toNat = [0, 1, 2, 3, 4] := by decide
  rw [e]
  simp [fdiv_pow, fmod8]
theorem shares_1 {x : Int} (h : x % 2 ≠ 0) : sharesL x 5 = [0x3ff0000000000000, 0x3fe0000000000000, 0x3fe0000000000000, 0x3fe0000000000000, 0x3fe0000000000000] := by
  simp only [sharesL, Int.pow_zero, Int.emod_one]
  rw [if_pos trivial, if_neg (by omega), if_neg (by omega), if_neg (by omega), if_neg (by omega)]; rfl
theorem shares_2 {x : Int} (h : x % 2 = 0) (h' : x % 4 ≠ 0) : sharesL x 5 = [0x3ff0000000000000, 0x3ff0000000000000, 0x3fe0000000000000, 0x3fe0000000000000, 0x3fe0000000000000] := by
  simp only [sharesL, Int.pow_zero, Int.emod_one]
  rw [if_pos trivial, if_pos (by omega), if_neg (by omega), if_neg (by omega), if_neg (by omega)]; rfl
theorem shares_3 {x : Int} (h : x % 4 = 0) (h' : x % 8 ≠ 0) : sharesL x 5 = [0x3ff0000000000000, 0x3ff0000000000000, 0x3ff0000000000000, 0x3fe0000000000000, 0x3fe0000000000000] := by
  simp only [sharesL, Int.pow_zero, Int.emod_one]
  rw [if_pos trivial, if_pos (by omega), if_pos (by omega), if_neg (by omega), if_neg (by omega)]; rfl
theorem shares_4 {x : Int} (h : x % 8 = 0) (h' : x % 16 ≠ 0) : sharesL x 5 = [0x3ff0000000000000, 0x3ff0000000000000, 0x3ff0000000000000, 0x3ff0000000000000, 0x3fe0000000000000] := by
  simp only [sharesL, Int.pow_zero, Int.emod_one]
  rw [if_pos trivial, if_pos (by omega), if_pos (by omega), if_pos (by omega), if_neg (by omega)]; rfl
theorem shares_5 {x : Int} (h : x % 16 = 0) : sharesL x 5 = [0x3ff0000000000000, 0x3ff0000000000000, 0x3ff0000000000000, 0x3ff0000000000000, 0x3ff0000000000000] := by
  simp only [sharesL, Int.pow_zero, Int.emod_one]
  rw [if_pos trivial, if_pos (by omega), if_pos (by omega), if_pos (by omega), if_pos (by omega)]; rfl
theorem others_1 {x y : Int} (h : x % 2 ≠ 0) : othersL x y 5 = [y % 8] := by
  simp only [othersL, Int.pow_zero, Int.emod_one, Int.ediv_one]
  rw [if_neg (by omega), if_neg (by omega), if_neg (by omega), if_neg (by omega), if_pos trivial]; rfl
theorem others_2 {x y : Int} (h : x % 2 = 0) (h' : x % 4 ≠ 0) : othersL x y 5 = [y % 8, y / 2 % 8] := by
  simp only [othersL, Int.pow_zero, Int.emod_one, Int.ediv_one]
  rw [if_neg (by omega), if_neg (by omega), if_neg (by omega), if_pos (by omega), if_pos trivial]; rfl
theorem others_3 {x y : Int} (h : x % 4 = 0) (h' : x % 8 ≠ 0) : othersL x y 5 = [y % 8, y / 2 % 8, y / 4 % 8] := by
  simp only [othersL, Int.pow_zero, Int.emod_one, Int.ediv_one]
  rw [if_neg (by omega), if_neg (by omega), if_pos (by omega), if_pos (by omega), if_pos trivial]; rfl
theorem others_4 {x y : Int} (h : x % 8 = 0) (h' : x % 16 ≠ 0) : othersL x y 5 = [y % 8, y / 2 % 8, y / 4 % 8, y / 8 % 8] := by
  simp only [othersL, Int.pow_zero, Int.emod_one, Int.ediv_one]
  rw [if_neg (by omega), if_pos (by omega), if_pos (by omega), if_pos (by omega), if_pos trivial]; rfl
theorem others_5 {x y : Int} (h : x % 16 = 0) : othersL x y 5 = [y % 8, y / 2 % 8, y / 4 % 8, y / 8 % 8, y / 16 % 8] := by
  simp only [othersL, Int.pow_zero, Int.emod_one, Int.ediv_one]
  rw [if_pos (by omega), if_pos (by omega), if_pos (by omega), if_pos (by omega), if_pos trivial]; rfl
theorem foldl_rep (v : Value) : ∀ (n : Nat) (acc : List Value), List.foldl (fun x1 x2 => x1 ++ x2) acc.toArray (List.replicate n #[v]) = (acc ++ List.replicate n v).toArray
  | 0, acc => by simp
  | n + 1, acc => by
    have e : acc.toArray ++ #[v] = (acc ++ [v]).toArray := by simp
    rw [List.replicate_succ, List.foldl_cons, e, foldl_rep v n, List.replicate_succ]
    simp
section
variable {prog : Program} {w : World} {A : Around} {E : Value → Shared → Prop} {s : Shared} {Q : Value → Shared → Prop} {h₀ : Heap} {L : Addr} {m : Str → Option Value} {news : Led}
theorem mul_one {l : Addr} {v : Value} {k : Nat} {x : Int} {u : Tok} (F : Fr h₀ L s.heap m) (N : News h₀ L s.heap news) (hm : (l, W.listOf #[v] k) ∈ news) (h0 : 0 ≤ x) (h1 : x ≤ 5)
    (h : ∀ a h', Fr h₀ L h' m → News h₀ L h' ((a, W.listOf (List.replicate x.toNat v).toArray 0) :: news) → (∀ p ∈ news, p.1 < a) → Q (.ref a) { s with heap := h' }) :
    wpAny (model prog w) A (binaryOp .Mult (.ref l) (.int x u)) Q E s := by
  refine mul_list F N (N _ hm).1 (by omega) (by omega) (by simp only [List.size_toArray, List.length_singleton]; omega) fun h' F' N' => h _ h' F' ?_ fun p hp => Heap.lt_size (N p hp).1
  have e : List.foldl (fun x1 x2 => x1 ++ x2) #[] (List.replicate (if (#[v] : Array Value).isEmpty = true then 0 else x.toNat) #[v]) = (List.replicate x.toNat v).toArray := by
    have q : (#[v] : Array Value).isEmpty = false := rfl
    rw [q, if_neg (by decide)]
    have z := foldl_rep v x.toNat []
    simpa using z
  rw [e] at N'
  exact N'
theorem add_made {l b : Addr} {vs ws : List Value} {j k : Nat} (F : Fr h₀ L s.heap m) (N : News h₀ L s.heap news) (hl : (l, W.listOf vs.toArray j) ∈ news) (hb : (b, W.listOf ws.toArray k) ∈ news) (hsz : vs.length + ws.length ≤ 100)
    (h : ∀ a h', Fr h₀ L h' m → News h₀ L h' ((a, W.listOf (vs ++ ws).toArray 0) :: news) → (∀ p ∈ news, p.1 < a) → Q (.ref a) { s with heap := h' }) :
    wpAny (model prog w) A (binaryOp .Add (.ref l) (.ref b)) Q E s :=
  add_lists F N (news_list N hl) (news_list N hb) (fun h' F' N' => h _ h' F' N' fun p hp => Heap.lt_size (N p hp).1) (by rw [sizeLine_eq]; omega)
end
/-- no reader has booked a token -/
theorem ns_none_of {K : Frag} {h : Heap} {a : Addr} {mc : Str → Option Value} {n : Str} (X : K.In h) (G : h.Ns a mc) (e : nsIn K a n = some none) : mc n = none := by
  obtain ⟨o, es, ep, ho, hd, _, hf⟩ := G
  unfold nsIn at e
  split at e
  · rename_i c d es' n' sl q
    have := X _ _ q
    rw [ho] at this
    cases this
    cases hd
    split at e
    · cases e
    · rename_i he
      rw [← hf]
      unfold nsFind findBy
      rw [← Array.find?_toList, he]
      rfl
  · cases e
theorem booked_none {K : Frag} {h₀ h : Heap} (X : K.In h₀) (hn : h₀.NoLimit) (e : nsIn K cStatics sharingNotToldKey = some none) (k : ∀ b o, h₀.get? b = some o → h.get? b = some o) : NoneBooked h := by
  obtain ⟨mc, G, _⟩ := hn
  have z := ns_none_of X G e
  obtain ⟨o, es, ep, ho, r⟩ := G
  exact ⟨mc, ⟨o, es, ep, k _ _ ho, r⟩, z⟩
theorem same_float {M : Model} {A : Around} {E : Value → Shared → Prop} {s : Shared} {x : UInt64} {t u : Tok} {Q : Bool → Shared → Prop} (ht : 0 < t) (hu : 0 < u) (hb : NoneBooked s.heap) (hq : ∀ b, Q b s) : wpAny M A (isSame (.float x t) (.float x u)) Q E s := by
  show wpAny M A (isSame.created (x == x && !Float64.isNaN x) t u) Q E s
  have h0 : (t == 0 || u == 0) = false := by
    have a : ¬ t = 0 := Nat.ne_of_gt ht
    have b : ¬ u = 0 := Nat.ne_of_gt hu
    simp [a, b]
  unfold isSame.created
  refine wpAny_ite ?_
  split
  · rename_i h; rw [h0] at h; exact absurd h Bool.false_ne_true
  refine wpAny_ite ?_
  split
  · exact wpAny_pure (hq _)
  refine wpAny_ite ?_
  split
  · exact wpAny_pure (hq _)
  refine wpAny_bind (wpAny_sharingNotTold_none hb ?_)
  first | rw [if_neg Bool.false_ne_true] | simp only [Bool.false_eq_true, if_false]
  refine wpAny_bind (wpAny_sharingNotTold_none hb ?_)
  first | rw [if_neg Bool.false_ne_true] | simp only [Bool.false_eq_true, if_false]
  exact wpAny_bind (wpAny_rule (wpAny_bind (wpAny_askSetting (wpAny_pure (hq _)))))
theorem eqAt_float {A : Around} {s : Shared} (x : UInt64) (t u : Tok) (ht : 0 < t) (hu : 0 < u) (hb : NoneBooked s.heap) (hx : (Float64.cmp x x == some Ordering.eq) = true) : SeqAt.EqAt A s (.float x t) (.float x u) true := fun prog w E Q h => by
  unfold eqBool
  refine wpAny_holding ?_
  refine wpAny_ite_split (fun hab => ?_) (fun _ => ?_)
  · exact wpAny_bind (wpAny_rule (wpAny_pure h))
  · refine wpAny_bind (same_float ht hu hb fun b => ?_)
    cases b with
    | true => exact wpAny_pure h
    | false =>
      refine wpAny_bind (AutoFloatOps.eq_0 ?_)
      rw [hx]
      exact wpAny_truthy_bool h
theorem fa_at : ∀ {vs us : List Value} {xs : List UInt64}, FA vs xs → FA us xs → ∀ j (h1 : j < vs.length) (h2 : j < us.length), ∃ x ∈ xs, ∃ t u, 0 < t ∧ 0 < u ∧ vs[j] = .float x t ∧ us[j] = .float x u
  | _, _, _, .nil, .nil, j, h1, _ => absurd h1 (Nat.not_lt_zero _)
  | _, _, _, .cons x t ht a, .cons _ u hu b, 0, _, _ => ⟨x, List.mem_cons_self, t, u, ht, hu, rfl, rfl⟩
  | _, _, _, .cons x t ht a, .cons _ u hu b, j + 1, h1, h2 => by
    obtain ⟨y, hy, t', u', p1, p2, e1, e2⟩ := fa_at a b j (by simpa using h1) (by simpa using h2)
    exact ⟨y, List.mem_cons_of_mem _ hy, t', u', p1, p2, by simpa using e1, by simpa using e2⟩
theorem ne_floats_same {prog : Program} {w : World} {A : Around} {E : Value → Shared → Prop} {s : Shared} {Q : Value → Shared → Prop} {a b : Addr} {vs us : List Value} {xs : List UInt64} (hl : s.heap.IsList a vs.toArray) (hl' : s.heap.IsList b us.toArray) (h1 : FA vs xs) (h2 : FA us xs)
    (hx : ∀ x ∈ xs, x = 0x3ff0000000000000 ∨ x = 0x3fe0000000000000) (hb : NoneBooked s.heap) (hu : A.units + 64 < cLine) (h : Q (.bool false) s) : wpAny (model prog w) A (compareOp .NotEq (.ref a) (.ref b)) Q E s := by
  refine cmp_ofNotEq (SeqAt.RcNeAt.lists (e := fun _ => true) hl hl' (by simp [h1.len, h2.len]) (by omega) (fun j q1 q2 => ?_) prog w E Q ?_)
  · simp only [List.getElem_toArray]
    obtain ⟨x, hm, t, u, p1, p2, e1, e2⟩ := fa_at h1 h2 j (by simpa using q1) (by simpa using q2)
    rw [e1, e2]
    refine eqAt_float x t u p1 p2 hb ?_
    rcases hx x hm with rfl | rfl <;> decide +kernel
  · have e : (!(List.range vs.toArray.size).all fun _ => true) = false := by simp
    rw [e]
    exact h
theorem oc1 (y : Int) : [y % 8] = List.map (fun k : Int => ((y % 8).fdiv (2 ^ k.toNat)).fmod 8) (rangeKs 0 ((1 : Int) - 0).toNat) := by
  have e : rangeKs 0 ((1 : Int) - 0).toNat = [0] := by decide
  rw [e]; simp [fdiv_pow, fmod8]
theorem oc2 (y : Int) (h0 : 0 ≤ y) (h1 : y < 64) : [y % 8, y / 2 % 8] = List.map (fun k : Int => ((y % 16).fdiv (2 ^ k.toNat)).fmod 8) (rangeKs 0 ((2 : Int) - 0).toNat) :=
  of_decide_eq_true (all_int (N := 64) (p := fun y => decide ([y % 8, y / 2 % 8] = List.map (fun k : Int => ((y % 16).fdiv (2 ^ k.toNat)).fmod 8) (rangeKs 0 ((2 : Int) - 0).toNat))) (by decide +kernel) y h0 h1)
theorem oc3 (y : Int) (h0 : 0 ≤ y) (h1 : y < 64) : [y % 8, y / 2 % 8, y / 4 % 8] = List.map (fun k : Int => ((y % 32).fdiv (2 ^ k.toNat)).fmod 8) (rangeKs 0 ((3 : Int) - 0).toNat) :=
  of_decide_eq_true (all_int (N := 64) (p := fun y => decide ([y % 8, y / 2 % 8, y / 4 % 8] = List.map (fun k : Int => ((y % 32).fdiv (2 ^ k.toNat)).fmod 8) (rangeKs 0 ((3 : Int) - 0).toNat))) (by decide +kernel) y h0 h1)
theorem oc4 (y : Int) (h0 : 0 ≤ y) (h1 : y < 64) : [y % 8, y / 2 % 8, y / 4 % 8, y / 8 % 8] = List.map (fun k : Int => ((y % 64).fdiv (2 ^ k.toNat)).fmod 8) (rangeKs 0 ((4 : Int) - 0).toNat) :=
  of_decide_eq_true (all_int (N := 64) (p := fun y => decide ([y % 8, y / 2 % 8, y / 4 % 8, y / 8 % 8] = List.map (fun k : Int => ((y % 64).fdiv (2 ^ k.toNat)).fmod 8) (rangeKs 0 ((4 : Int) - 0).toNat))) (by decide +kernel) y h0 h1)
theorem eq_yes {prog : Program} {w : World} {A : Around} {E : Value → Shared → Prop} {s : Shared} {Q : Value → Shared → Prop} {t u : Tok} (h : Q (.bool true) s) : wpAny (model prog w) A (compareOp .Eq (.float 0x3ff0000000000000 t) (.float 0x3ff0000000000000 u)) Q E s := by
  refine AutoFloatOps.eq_0 ?_
  have e : (Float64.cmp 0x3ff0000000000000 0x3ff0000000000000 == some Ordering.eq) = true := by decide +kernel
  rw [e]; exact h
theorem eq_no {prog : Program} {w : World} {A : Around} {E : Value → Shared → Prop} {s : Shared} {Q : Value → Shared → Prop} {t u : Tok} (h : Q (.bool false) s) : wpAny (model prog w) A (compareOp .Eq (.float 0x3fe0000000000000 t) (.float 0x3ff0000000000000 u)) Q E s := by
  refine AutoFloatOps.eq_0 ?_
  have e : (Float64.cmp 0x3fe0000000000000 0x3ff0000000000000 == some Ordering.eq) = false := by decide +kernel
  rw [e]; exact h
theorem fmod_pow (a : Int) (k : Nat) : Int.fmod a (2 ^ k) = a % 2 ^ k := Int.fmod_eq_emod_of_nonneg _ (Int.le_of_lt (pow_pos k))
theorem pw_y0 (x : Int) : Int.fmod x (2 ^ (0 : Nat)) = 0 := by rw [fmod_pow]; simp [Int.emod_one]
theorem pw_y1 {x : Int} (h : x % 2 = 0) : Int.fmod x (2 ^ (1 : Nat)) = 0 := by rw [fmod_pow]; exact h
theorem pw_n1 {x : Int} (h : ¬ x % 2 = 0) : ¬ Int.fmod x (2 ^ (1 : Nat)) = 0 := by rw [fmod_pow]; exact h
theorem pw_y2 {x : Int} (h : x % 4 = 0) : Int.fmod x (2 ^ (2 : Nat)) = 0 := by rw [fmod_pow]; exact h
theorem pw_n2 {x : Int} (h : ¬ x % 4 = 0) : ¬ Int.fmod x (2 ^ (2 : Nat)) = 0 := by rw [fmod_pow]; exact h
theorem pw_y3 {x : Int} (h : x % 8 = 0) : Int.fmod x (2 ^ (3 : Nat)) = 0 := by rw [fmod_pow]; exact h
theorem pw_n3 {x : Int} (h : ¬ x % 8 = 0) : ¬ Int.fmod x (2 ^ (3 : Nat)) = 0 := by rw [fmod_pow]; exact h
theorem pw_y4 {x : Int} (h : x % 16 = 0) : Int.fmod x (2 ^ (4 : Nat)) = 0 := by rw [fmod_pow]; exact h
theorem pw_n4 {x : Int} (h : ¬ x % 16 = 0) : ¬ Int.fmod x (2 ^ (4 : Nat)) = 0 := by rw [fmod_pow]; exact h
theorem eq_int_yes {prog : Program} {w : World} {A : Around} {E : Value → Shared → Prop} {s : Shared} {Q : Value → Shared → Prop} {a : Int} {t u : Tok} (e : a = 0) (h : Q (.bool true) s) : wpAny (model prog w) A (compareOp .Eq (.int a t) (.int 0 u)) Q E s := by
  refine PyProof.Rows.eq_int ?_
  simpa [e] using h
theorem eq_int_no {prog : Program} {w : World} {A : Around} {E : Value → Shared → Prop} {s : Shared} {Q : Value → Shared → Prop} {a : Int} {t u : Tok} (e : ¬ a = 0) (h : Q (.bool false) s) : wpAny (model prog w) A (compareOp .Eq (.int a t) (.int 0 u)) Q E s := by
  refine PyProof.Rows.eq_int ?_
  have q : (a == 0) = false := by simpa using e
  rw [q]
  exact h
/-- a goal that the walk leaves alone -/
def Stop (p : Prop) : Prop := p
theorem Stop.out {p : Prop} (h : Stop p) : p := h
structure FirstPart : Prop where
  mark :: (one : True)
abbrev fp (x : Int) (t : Nat) : Int := x.fmod (2 ^ (0 + (t : Int)).toNat)
theorem fp_is (x : Int) (t : Nat) : fp x t = x % 2 ^ t := by
  unfold fp
  have e : (0 + (t : Int)).toNat = t := by omega
  rw [e, fmod_pow]
theorem twos_1 {x : Int} (h : x % 2 ≠ 0) : x.fmod (2 ^ (0 + ((0 : Nat) : Int)).toNat) = 0 ∧ ¬ x.fmod (2 ^ (0 + ((1 : Nat) : Int)).toNat) = 0 ∧ ¬ x.fmod (2 ^ (0 + ((2 : Nat) : Int)).toNat) = 0 ∧ ¬ x.fmod (2 ^ (0 + ((3 : Nat) : Int)).toNat) = 0 ∧ ¬ x.fmod (2 ^ (0 + ((4 : Nat) : Int)).toNat) = 0 :=
  ⟨pw_y0 x, pw_n1 (by omega), pw_n2 (by omega), pw_n3 (by omega), pw_n4 (by omega)⟩
theorem twos_2 {x : Int} (h : x % 2 = 0) (h' : x % 4 ≠ 0) : x.fmod (2 ^ (0 + ((0 : Nat) : Int)).toNat) = 0 ∧ x.fmod (2 ^ (0 + ((1 : Nat) : Int)).toNat) = 0 ∧ ¬ x.fmod (2 ^ (0 + ((2 : Nat) : Int)).toNat) = 0 ∧ ¬ x.fmod (2 ^ (0 + ((3 : Nat) : Int)).toNat) = 0 ∧ ¬ x.fmod (2 ^ (0 + ((4 : Nat) : Int)).toNat) = 0 :=
  ⟨pw_y0 x, pw_y1 (by omega), pw_n2 (by omega), pw_n3 (by omega), pw_n4 (by omega)⟩
theorem twos_3 {x : Int} (h : x % 4 = 0) (h' : x % 8 ≠ 0) : x.fmod (2 ^ (0 + ((0 : Nat) : Int)).toNat) = 0 ∧ x.fmod (2 ^ (0 + ((1 : Nat) : Int)).toNat) = 0 ∧ x.fmod (2 ^ (0 + ((2 : Nat) : Int)).toNat) = 0 ∧ ¬ x.fmod (2 ^ (0 + ((3 : Nat) : Int)).toNat) = 0 ∧ ¬ x.fmod (2 ^ (0 + ((4 : Nat) : Int)).toNat) = 0 :=
  ⟨pw_y0 x, pw_y1 (by omega), pw_y2 (by omega), pw_n3 (by omega), pw_n4 (by omega)⟩
theorem twos_4 {x : Int} (h : x % 8 = 0) (h' : x % 16 ≠ 0) : x.fmod (2 ^ (0 + ((0 : Nat) : Int)).toNat) = 0 ∧ x.fmod (2 ^ (0 + ((1 : Nat) : Int)).toNat) = 0 ∧ x.fmod (2 ^ (0 + ((2 : Nat) : Int)).toNat) = 0 ∧ x.fmod (2 ^ (0 + ((3 : Nat) : Int)).toNat) = 0 ∧ ¬ x.fmod (2 ^ (0 + ((4 : Nat) : Int)).toNat) = 0 :=
  ⟨pw_y0 x, pw_y1 (by omega), pw_y2 (by omega), pw_y3 (by omega), pw_n4 (by omega)⟩
theorem twos_5 {x : Int} (h : x % 16 = 0) : x.fmod (2 ^ (0 + ((0 : Nat) : Int)).toNat) = 0 ∧ x.fmod (2 ^ (0 + ((1 : Nat) : Int)).toNat) = 0 ∧ x.fmod (2 ^ (0 + ((2 : Nat) : Int)).toNat) = 0 ∧ x.fmod (2 ^ (0 + ((3 : Nat) : Int)).toNat) = 0 ∧ x.fmod (2 ^ (0 + ((4 : Nat) : Int)).toNat) = 0 :=
  ⟨pw_y0 x, pw_y1 (by omega), pw_y2 (by omega), pw_y3 (by omega), pw_y4 (by omega)⟩
theorem pow_two_k {prog : Program} {w : World} {A : Around} {E : Value → Shared → Prop} {s : Shared} {Q : Value → Shared → Prop} {t u : Tok} {k : Int} {n : Nat} (h0 : 0 ≤ k) (h : k < 0 + (n : Int)) (hn : n ≤ 1000)
    (hq : k < 9000 → Q (.int ((2 : Int) ^ k.toNat) s.toks) { s with toks := s.toks + 1 }) : wpAny (model prog w) A (binaryOp .Pow (.int 2 t) (.int k u)) Q E s :=
  pow_int_small h0 (by omega) (by decide) (hq (by omega))
theorem cases5 (x : Int) : x % 2 ≠ 0 ∨ (x % 2 = 0 ∧ x % 4 ≠ 0) ∨ (x % 4 = 0 ∧ x % 8 ≠ 0) ∨ (x % 8 = 0 ∧ x % 16 ≠ 0) ∨ x % 16 = 0 := by omega
structure RestFacts (O C1 C2 : Addr) (news : Led) : Prop where
  nO : C2 < O
  c12 : C1 < C2
  off : ∀ p ∈ news, p.1 ≠ C2
theorem rest_store {M : Model} {A : Around} {E : Value → Shared → Prop} {s : Shared} {h₀ : Heap} {L a : Addr} {m : Str → Option Value} {cn : Str} {cs : Scope} {ccd : Value} {cl : List (Str × Addr)} {x : Str} {v : Value} {Q : Unit → Shared → Prop} {news full : Led} {O C1 C2 : Addr} {oo o1 o2 : Obj} {v₀ : Option Value}
    (F : Fr h₀ L s.heap m) (N : News h₀ L s.heap full) (hc : cl.lookup x = some C2) (hO : (O, oo) ∈ full) (h1 : (C1, o1) ∈ full) (h2 : (C2, o2) ∈ full) (hn : ∀ p ∈ news, p ∈ full) (R : RestFacts O C1 C2 news) (hd : o2.data = .cell v₀)
    (hk : cs.kind = .function) (hx : (envX cn cs L a ccd cl).kindOf x = some .cell)
    (h : ∀ h' o', Fr h₀ L h' m → News h₀ L h' ((O, oo) :: (C2, o') :: (C1, o1) :: news) → o'.data = .cell (some v) → Q () { s with heap := h' }) :
    wpAny M A (storeName (envX cn cs L a ccd cl) x v) Q E s := by
  have N0 : News h₀ L s.heap ((O, oo) :: (C2, o2) :: (C1, o1) :: news) := by
    intro p hp
    rcases List.mem_cons.mp hp with rfl | hp
    · exact N _ hO
    rcases List.mem_cons.mp hp with rfl | hp
    · exact N _ h2
    rcases List.mem_cons.mp hp with rfl | hp
    · exact N _ h1
    · exact N _ (hn p hp)
  refine storeX_C F N0 hc (.tail (Nat.ne_of_gt R.nO) (.head fun p hp => ?_)) hd h hk hx
  rcases List.mem_cons.mp hp with rfl | hp
  · exact Nat.ne_of_lt R.c12
  · exact R.off p hp
theorem done_ret {Q : Value → Shared → Prop} {h₀ : Heap} {L : Addr} {m : Str → Option Value} {news full : Led} {s : Shared} {h' : Heap} {tk : Nat} {x : Bool}
    (hret : ∀ (r : Value) (tl : Led) (h' : Heap) (tk' : Nat), Fr h₀ L h' m → News h₀ L h' (tl ++ news) → (∀ p ∈ tl, ∀ q ∈ news, q.1 < p.1) → OneB true tl r → Q r { s with heap := h', toks := tk' })
    (e : true = x) (F : Fr h₀ L h' m) (N : News h₀ L h' full) (hs : ∀ p ∈ news, p ∈ full) : Q (.bool x) { s with heap := h', toks := tk } :=
  oneB_ret hret e F fun p hp => N p (hs p hp)
theorem end_1 (y : Int) : true = (y % 8 == y.fmod (4 * 2 ^ Int.toNat 1)) := by
  have e : y.fmod (4 * 2 ^ Int.toNat 1) = y % 8 := Int.fmod_eq_emod_of_nonneg _ (by decide)
  rw [e]; simp
theorem end_2 (y : Int) : true = (y % 16 == y.fmod (4 * 2 ^ Int.toNat 2)) := by
  have e : y.fmod (4 * 2 ^ Int.toNat 2) = y % 16 := Int.fmod_eq_emod_of_nonneg _ (by decide)
  rw [e]; simp
theorem end_3 (y : Int) : true = (y % 32 == y.fmod (4 * 2 ^ Int.toNat 3)) := by
  have e : y.fmod (4 * 2 ^ Int.toNat 3) = y % 32 := Int.fmod_eq_emod_of_nonneg _ (by decide)
  rw [e]; simp
theorem end_4 (y : Int) : true = (y % 64 == y.fmod (4 * 2 ^ Int.toNat 4)) := by
  have e : y.fmod (4 * 2 ^ Int.toNat 4) = y % 64 := Int.fmod_eq_emod_of_nonneg _ (by decide)
  rw [e]; simp
theorem end_5 {y : Int} (h0 : 0 ≤ y) (h1 : y < 64) : true = (y == y.fmod (4 * 2 ^ Int.toNat 5)) := by
  have e : y.fmod (4 * 2 ^ Int.toNat 5) = y % 128 := Int.fmod_eq_emod_of_nonneg _ (by decide)
  have q : y % 128 = y := by omega
  rw [e, q]; simp
section
local macro_rules | `(tactic| walk_at "execs cons") => `(tactic| (k_here; (with_reducible refine gen_pos ?_); intro tk htk))
local macro_rules | `(tactic| walk_at "exec Assign cons ListComp") => `(tactic| (k_here; k_dflt (refine LCt.Assign_ListComp_T (F₀ := by k_asm) (by rfl) (by with_unfolding_all rfl) (by with_unfolding_all rfl) (by decide) (by rfl) (by decide) (by rfl) (by rfl) (by rfl) ?_)))
local macro_rules | `(tactic| walk_at "CompEnd") => `(tactic| (k_dflt (refine' LCg.CompEnd.intro ?f1 ?f2 _ (fun _ h9 => h9) ?f3 ?f4 ?_; (case f1 => assumption); (case f2 => assumption); (case f3 => assumption); (case f4 => first | exact True.intro | exact Or.inr ⟨_, by k_memK, rfl, _, rfl⟩))))
local macro_rules | `(tactic| walk_at "compareOp NotEq ref ref") => `(tactic| (k_here; (with_reducible show wpAny _ _ (compareOp CmpOp.NotEq (Value.ref _) (Value.ref _)) _ _ _); k_dflt (first
  | (refine' ne_ints_same ?k1 ?k2 ?k3 ?k4 ?k5 ?k6 ?_; (case k1 => exact news_list (by k_asm) (by k_memK)); (case k2 => exact news_list (by k_asm) (by k_memK)); (case k3 => assumption); (case k4 => assumption); (case k5 => ktr_units); (case k6 => first | exact places_comp _ | exact oc1 _ | exact oc2 _ (by assumption) (by assumption) | exact oc3 _ (by assumption) (by assumption) | exact oc4 _ (by assumption) (by assumption)); k_whole)
  | (refine' ne_floats_same ?k1 ?k2 ?k3 ?k4 ?k5 ?k7 ?k6 ?_; (case k1 => exact news_list (by k_asm) (by k_memK)); (case k2 => exact news_list (by k_asm) (by k_memK)); (case k3 => assumption); (case k4 => repeat (first | exact FA.nil | (refine FA.cons _ _ (by first | assumption | exact Nat.succ_pos _) ?_))); (case k5 => decide); (case k7 => exact booked_none (by k_asm) (Top.nolimit (by k_asm)) (by k_is) (Fr.keep (by k_asm))); (case k6 => ktr_units); k_whole))))
local macro_rules | `(tactic| walk_at "binaryOp Mult ref int") => `(tactic| (k_here; k_dflt (refine' mul_one ?k1 ?k2 ?k3 ?k4 ?k5 ?_; (case k1 => k_asm); (case k2 => k_asm); (case k3 => k_memK); (case k4 => decide); (case k5 => decide); k_whole); intro a9 h9 F9 N9 l9; (try k_lt l9); (try simp only [Int.reduceSub, Int.reduceToNat, List.replicate_succ, List.replicate_zero] at N9); (try k_sweep); (try dsimp only)))
local macro_rules | `(tactic| walk_at "binaryOp Add ref ref") => `(tactic| (k_here; k_dflt (refine' add_made ?k1 ?k2 ?k3 ?k4 ?k5 ?_; (case k1 => k_asm); (case k2 => k_asm); (case k3 => k_memK); (case k4 => k_memK); (case k5 => exact Nat.le_of_ble_eq_true rfl); k_whole); intro a9 h9 F9 N9 l9; (try k_lt l9); (try simp only [List.cons_append, List.nil_append] at N9); (try k_sweep); (try dsimp only)))
local macro_rules | `(tactic| walk_at "execs cons") => `(tactic| ((rename FirstPart => fp9); (with_reducible show wpAny _ _ (execs (Stmt.Assign [Expr.Name (Str.ofString "kept") _] _ _ :: _) _) _ _ _); clear fp9; refine Stop.out ?_))
local macro_rules | `(tactic| walk_at "binaryOp Mult str int") => `(tactic| (refine mul_q (by assumption) (by assumption) ?_; intro _ _))
local macro_rules | `(tactic| walk_at "binaryOp Add str str") => `(tactic| first | (refine add_k (by simp only [len_T0]; omega) ?_; intro _ _) | (refine add_T1 (by omega) ?_; intro _ _) | (refine add_head (by first | (simp only [len_T0]; omega) | (simp only [len_T1]; omega)) ?_; intro _ _))
local macro_rules | `(tactic| walk_at "subscriptTail") => `(tactic| (k_here; (with_reducible show wpAny _ _ (subscriptTail _ _ (Value.ref _) (Value.int _ _)) _ _ _); k_dflt (refine' item_tupleT ?t ?a ?b ?c ?d ?_; (case t => exact News.isTup (by k_asm) (by k_memK)); (case a => decide); (case b => decide); (case c => rfl); (case d => rfl); k_whole)))
local macro_rules | `(tactic| k_all) => `(tactic| first | (with_reducible assumption) | exact tail_ne (by assumption) (by assumption) (by k_memK))
local macro_rules | `(tactic| walk_at "binaryOp Pow int int") => `(tactic| ((with_reducible refine pow_two_k (by assumption) (by assumption) (by decide) ?_); intro hk9))
abbrev scopeT : Scope := { kind := .function, names := [(Str.ofString "first", .local), (Str.ofString "second", .local), (Str.ofString "text", .local), (Str.ofString "places", .local), (Str.ofString "shares", .local), (Str.ofString "others", .local), (Str.ofString "t", .local), (Str.ofString "one", .local), (Str.ofString "other", .local), (Str.ofString "hue", .local), (Str.ofString "share", .local), (Str.ofString "value", .local), (Str.ofString "place", .local), (Str.ofString "turn", .local), (Str.ofString "light", .local), (Str.ofString "strength", .local), (Str.ofString "far", .local), (Str.ofString "number", .cell), (Str.ofString "kept", .local), (Str.ofString "twos", .local), (Str.ofString "rest", .cell), (Str.ofString "range", .globalImplicit), (Str.ofString "_law_seen", .globalImplicit), (Str.ofString "rgb_to_hsv", .globalImplicit), (Str.ofString "round", .globalImplicit), (Str.ofString "rgb_to_hls", .globalImplicit), (Str.ofString "_law_near", .globalImplicit), (Str.ofString "parse257", .globalImplicit), (Str.ofString "_law_number", .globalImplicit), (Str.ofString "len", .globalImplicit)], isGenerator := false, isCoroutine := false, more := [(Str.ofString "fast", .str (Str.ofString "first")), (Str.ofString "fast", .str (Str.ofString "second")), (Str.ofString "fast", .str (Str.ofString "text")), (Str.ofString "fast", .str (Str.ofString "places")), (Str.ofString "fast", .str (Str.ofString "shares")), (Str.ofString "fast", .str (Str.ofString "others")), (Str.ofString "fast", .str (Str.ofString "t")), (Str.ofString "fast", .str (Str.ofString "one")), (Str.ofString "fast", .str (Str.ofString "other")), (Str.ofString "fast", .str (Str.ofString "hue")), (Str.ofString "fast", .str (Str.ofString "share")), (Str.ofString "fast", .str (Str.ofString "value")), (Str.ofString "fast", .str (Str.ofString "place")), (Str.ofString "fast", .str (Str.ofString "turn")), (Str.ofString "fast", .str (Str.ofString "light")), (Str.ofString "fast", .str (Str.ofString "strength")), (Str.ofString "fast", .str (Str.ofString "far")), (Str.ofString "fast", .str (Str.ofString "number")), (Str.ofString "fast", .str (Str.ofString "kept")), (Str.ofString "fast", .str (Str.ofString "twos")), (Str.ofString "fast", .str (Str.ofString "rest"))] }
def bodyAt : List Stmt → List Stmt
  | (.FunctionDef _ _ b _ _ _ _ _ _ _) :: _ => b
  | _ => []
abbrev sufT : List Stmt := List.drop 7 (bodyAt (List.drop 17 PySem.Challenge.pw_pg0105_01.main.body))
abbrev viewT (O S P : Addr) (y : Int) (t2 : Tok) (m : Str → Option Value) (z : Str) : Option Value :=
  if z = Str.ofString "others" then some (.ref O) else if z = Str.ofString "shares" then some (.ref S) else if z = Str.ofString "places" then some (.ref P) else if z = Str.ofString "second" then some (.int y t2) else m z
theorem view_is {O S P : Addr} {y : Int} {t2 : Tok} {m : Str → Option Value} (e1 : m (Str.ofString "others") = some (.ref O)) (e2 : m (Str.ofString "shares") = some (.ref S)) (e3 : m (Str.ofString "places") = some (.ref P)) (e4 : m (Str.ofString "second") = some (.int y t2)) : m = viewT O S P y t2 m := by
  funext z
  unfold viewT
  split
  · rename_i h; rw [h]; exact e1
  split
  · rename_i h; rw [h]; exact e2
  split
  · rename_i h; rw [h]; exact e3
  split
  · rename_i h; rw [h]; exact e4
  rfl
theorem fr_view {h₀ h : Heap} {L O S P : Addr} {y : Int} {t2 : Tok} {m : Str → Option Value} (F : Fr h₀ L h m) (e1 : m (Str.ofString "others") = some (.ref O)) (e2 : m (Str.ofString "shares") = some (.ref S)) (e3 : m (Str.ofString "places") = some (.ref P)) (e4 : m (Str.ofString "second") = some (.int y t2)) : Fr h₀ L h (viewT O S P y t2 m) := by
  rw [← view_is e1 e2 e3 e4]
  exact F
theorem tail_ret {Q : Flow → Shared → Prop} {h₀ : Heap} {L : Addr} {m : Str → Option Value} {news full : Led} {s : Shared} {h' : Heap} {tk : Nat} {x : Bool}
    (hret : ∀ (h' : Heap) (tk' : Nat) (m : Str → Option Value) (full : Led), Fr h₀ L h' m → News h₀ L h' full → (∀ p ∈ news, p ∈ full) → Q (.ret (.bool true)) { s with heap := h', toks := tk' })
    (e : true = x) (F : Fr h₀ L h' m) (N : News h₀ L h' full) (hs : ∀ p ∈ news, p ∈ full) : Q (.ret (.bool x)) { s with heap := h', toks := tk } := by
  subst e
  exact hret _ _ _ _ F N hs
set_option maxRecDepth 100000 in
set_option maxHeartbeats 8000000 in
theorem tail_1 (w : World) (x y : Int) (hy0 : 0 ≤ y) (hy1 : y < 64) (g1 : x % 2 ≠ 0) : ∀ (mean : ExcName → Option Value) (mg mb : Str → Option Value) (dp un : Nat) (gd : Option (List Code)) (cn : Str) (cs : Scope) (L a : Addr) (ccd : Value) (cl : List (Str × Addr)) (outer : List Env) (base g' : Heap) (L' P S O : Addr) (nP nS nO : Nat) (p0 p1 p2 p3 p4 s0 s1 s2 s3 s4 u0 t2 t9 : Tok) (o1 o2 : Obj) (v0 : Option Value) (m : Str → Option Value) (news : Led) (s : Shared) (Q : Flow → Shared → Prop) (E : Value → Shared → Prop),
    Below (ktrTop dp un gd cn cs L a ccd cl outer) base (envX cn cs L a ccd cl :: outer) g' → (hd.heap_39 w.params).In g' → Top hd.view_39 LS mean mg mb g' → cs.kind = .function → dp + 20 < recursionLimit → un + 8 * 20 < cLine →
    (L' + 1 < P ∧ L' + 1 + 1 < P ∧ AllLt P news) → (P < S ∧ L' + 1 + 1 < S ∧ L' + 1 < S ∧ AllLt S news) → (S < O ∧ P < O ∧ L' + 1 + 1 < O ∧ L' + 1 < O ∧ AllLt O news) → (∀ p ∈ news, p.1 < L') → o1.data = .cell (some (.int x t9)) → o2.data = .cell v0 →
    FA [.float 0x3ff0000000000000 s0, .float 0x3fe0000000000000 s1, .float 0x3fe0000000000000 s2, .float 0x3fe0000000000000 s3, .float 0x3fe0000000000000 s4] [0x3ff0000000000000, 0x3fe0000000000000, 0x3fe0000000000000, 0x3fe0000000000000, 0x3fe0000000000000] → IntsAre [.int (y % 8) u0] [y % 8] →
    Fr g' L' s.heap (viewT O S P y t2 m) → News g' L' s.heap ((O, W.listOf [.int (y % 8) u0].toArray nO) :: (S, W.listOf [.float 0x3ff0000000000000 s0, .float 0x3fe0000000000000 s1, .float 0x3fe0000000000000 s2, .float 0x3fe0000000000000 s3, .float 0x3fe0000000000000 s4].toArray nS) :: (P, W.listOf [.int (x % 8) p0, .int (x / 2 % 8) p1, .int (x / 4 % 8) p2, .int (x / 8 % 8) p3, .int (x / 16 % 8) p4].toArray nP) :: (L' + 1 + 1, o2) :: (L' + 1, o1) :: news) →
    (∀ (h' : Heap) (tk' : Nat) (m : Str → Option Value) (full : Led), Fr g' L' h' m → News g' L' h' full → (∀ p ∈ news, p ∈ full) → Q (.ret (.bool true)) { s with heap := h', toks := tk' }) →
    wpAny (model PG w) ((ktrTop dp un gd cn cs L a ccd cl outer).deeper (envOfC (Str.ofString "_law_is_told") scopeT L' 107 (.ref 106))) (execs sufT (envOfC (Str.ofString "_law_is_told") scopeT L' 107 (.ref 106))) Q E s := by
  unfold PG LS; k_fill; k_with_none; w_top off
  intro mean mg mb dp un gd cn cs L a ccd cl outer base g' L' P S O nP nS nO p0 p1 p2 p3 p4 s0 s1 s2 s3 s4 u0 t2 t9 o1 o2 v0 m news s Q E B' X' T' hk hd hu q1 q2 q3 l1 d1 d2 h2 h3 F9 N9 hret
  obtain ⟨b1, b2, b3, b4, aO⟩ := q3
  obtain ⟨b5, b6, b7, aS⟩ := q2
  obtain ⟨b8, b9, aP⟩ := q1
  have c1 : ∀ p ∈ news, p.1 ≠ L' + 1 := fun p hp => Nat.ne_of_lt (Nat.lt_succ_of_lt (l1 p hp))
  have c2 : ∀ p ∈ news, p.1 ≠ L' + 1 + 1 := fun p hp => Nat.ne_of_lt (Nat.lt_succ_of_lt (Nat.lt_succ_of_lt (l1 p hp)))
  have kMark := kstMark
  have rf : RestFacts O (L' + 1) (L' + 1 + 1) news := ⟨b3, Nat.lt_succ_self _, c2⟩
  obtain ⟨z0, z1, z2, z3, z4⟩ := twos_1 g1
  k_with "binaryOp Mult int int" => (with_reducible refine PyProof.Rows.mul_int ?_ (IntMulOk.of_left (by decide +kernel)))
  k_with "compareOp Eq float float" => (first | (with_reducible refine eq_yes ?_) | (with_reducible refine eq_no ?_))
  k_with "compareOp Eq int int" => (first | (with_reducible refine eq_int_yes (by with_reducible assumption) ?_) | (with_reducible refine eq_int_no (by with_reducible assumption) ?_))
  k_with "compareOp NotEq int int" => ((with_reducible refine ne_same ?_))
  k_with "storeName int" => (k_here; (with_reducible show wpAny _ _ (storeName _ (Str.ofString "rest") _) _ _ _); k_dflt (refine' rest_store ?zzF ?zzN ?zzc ?zzm1 ?zzm2 ?zzm3 ?zzhn ?zzR ?zzd ?zza ?zzb ?_; (case zzF => k_asm); (case zzN => k_asm); (case zza => rfl); (case zzb => rfl); (case zzc => rfl); (case zzR => with_reducible assumption); (case zzm1 => k_memK); (case zzm2 => k_memK); (case zzm3 => k_memK); (case zzd => k_asm); (case zzhn => intro p hp; repeat (first | exact hp | refine List.Mem.tail _ ?_)); k_whole); intro h' o' F' N' d'; (try k_sweep))
  k_with "eval ListComp Name cons" => (k_here; (with_reducible show wpAny _ _ (eval (Expr.ListComp (Expr.Name (Str.ofString "share") _) _ _ _) _) _ _ _); k_dflt (refine LCt.ListComp_T (F₀ := by k_asm) (by with_unfolding_all rfl) (by decide) (by rfl) (by decide) (by rfl) ?_))
  k_with "CompSrcT Compare Name cons ref" => (k_here; k_dflt (first | refine LCt.CompSrcT.ledger (by rfl) (by k_asm) (by k_asm) (by k_memK) (by exact Nat.le_of_ble_eq_true rfl) ?_ | refine LCt.CompSrcT.range (n := 5) (by rfl) (by k_asm) (by k_asm) (by assumption) (by decide) (by rfl) (by exact Nat.le_of_ble_eq_true rfl) ?_); intro g9)
  k_with "CompSrcT Compare Name nil ref" => (k_here; k_dflt (first | refine LCt.CompSrcT.ledger (by rfl) (by k_asm) (by k_asm) (by k_memK) (by exact Nat.le_of_ble_eq_true rfl) ?_ | refine LCt.CompSrcT.range (n := 5) (by rfl) (by k_asm) (by k_asm) (by assumption) (by decide) (by rfl) (by exact Nat.le_of_ble_eq_true rfl) ?_); intro g9)
  k_with "call ref cons nil" => (k_here; (with_reducible show wpAny _ _ (call (Value.ref 102) _) _ _ _); k_dflt (refine CtrL.use (by k_asm) (by k_asm) (by k_asm) (by k_asm) (by k_asm) (by k_memK) (by with_reducible (first | exact numX _ _ _ _ (by assumption) (by assumption) _ _ _ _ _ | exact numY4 _ _ _ _ (by assumption) (by assumption) _ _ _ _ | exact numY3 _ _ _ _ (by assumption) (by assumption) _ _ _ | exact numY2 _ _ _ _ (by assumption) (by assumption) _ _ | exact numY1 _ _ _ _ _)) (by first | exact rfl | assumption) (by ktr_room) (by ktr_units) ?_; k_whole); intro r9 h9 tk9 F9 N9 o9; k_dflt (obtain ⟨t9, e9⟩ := o9; subst e9); (try k_sweep); (try dsimp only); (try k_fold))
  with_unfolding_all refine wpAny_execs_cons ?_
  k_fold
  k_steps
  all_goals (refine' tail_ret hret ?e ?F ?N ?hs; (case F => assumption); (case N => assumption); (case e => exact end_1 y); (case hs => intro p hp; repeat (first | exact hp | refine List.Mem.tail _ ?_)))
set_option maxRecDepth 100000 in
set_option maxHeartbeats 8000000 in
theorem tail_2 (w : World) (x y : Int) (hy0 : 0 ≤ y) (hy1 : y < 64) (g1 : x % 2 = 0) (g2 : x % 4 ≠ 0) : ∀ (mean : ExcName → Option Value) (mg mb : Str → Option Value) (dp un : Nat) (gd : Option (List Code)) (cn : Str) (cs : Scope) (L a : Addr) (ccd : Value) (cl : List (Str × Addr)) (outer : List Env) (base g' : Heap) (L' P S O : Addr) (nP nS nO : Nat) (p0 p1 p2 p3 p4 s0 s1 s2 s3 s4 u0 u1 t2 t9 : Tok) (o1 o2 : Obj) (v0 : Option Value) (m : Str → Option Value) (news : Led) (s : Shared) (Q : Flow → Shared → Prop) (E : Value → Shared → Prop),
    Below (ktrTop dp un gd cn cs L a ccd cl outer) base (envX cn cs L a ccd cl :: outer) g' → (hd.heap_39 w.params).In g' → Top hd.view_39 LS mean mg mb g' → cs.kind = .function → dp + 20 < recursionLimit → un + 8 * 20 < cLine →
    (L' + 1 < P ∧ L' + 1 + 1 < P ∧ AllLt P news) → (P < S ∧ L' + 1 + 1 < S ∧ L' + 1 < S ∧ AllLt S news) → (S < O ∧ P < O ∧ L' + 1 + 1 < O ∧ L' + 1 < O ∧ AllLt O news) → (∀ p ∈ news, p.1 < L') → o1.data = .cell (some (.int x t9)) → o2.data = .cell v0 →
    FA [.float 0x3ff0000000000000 s0, .float 0x3ff0000000000000 s1, .float 0x3fe0000000000000 s2, .float 0x3fe0000000000000 s3, .float 0x3fe0000000000000 s4] [0x3ff0000000000000, 0x3ff0000000000000, 0x3fe0000000000000, 0x3fe0000000000000, 0x3fe0000000000000] → IntsAre [.int (y % 8) u0, .int (y / 2 % 8) u1] [y % 8, y / 2 % 8] →
    Fr g' L' s.heap (viewT O S P y t2 m) → News g' L' s.heap ((O, W.listOf [.int (y % 8) u0, .int (y / 2 % 8) u1].toArray nO) :: (S, W.listOf [.float 0x3ff0000000000000 s0, .float 0x3ff0000000000000 s1, .float 0x3fe0000000000000 s2, .float 0x3fe0000000000000 s3, .float 0x3fe0000000000000 s4].toArray nS) :: (P, W.listOf [.int (x % 8) p0, .int (x / 2 % 8) p1, .int (x / 4 % 8) p2, .int (x / 8 % 8) p3, .int (x / 16 % 8) p4].toArray nP) :: (L' + 1 + 1, o2) :: (L' + 1, o1) :: news) →
    (∀ (h' : Heap) (tk' : Nat) (m : Str → Option Value) (full : Led), Fr g' L' h' m → News g' L' h' full → (∀ p ∈ news, p ∈ full) → Q (.ret (.bool true)) { s with heap := h', toks := tk' }) →
    wpAny (model PG w) ((ktrTop dp un gd cn cs L a ccd cl outer).deeper (envOfC (Str.ofString "_law_is_told") scopeT L' 107 (.ref 106))) (execs sufT (envOfC (Str.ofString "_law_is_told") scopeT L' 107 (.ref 106))) Q E s := by
  unfold PG LS; k_fill; k_with_none; w_top off
  intro mean mg mb dp un gd cn cs L a ccd cl outer base g' L' P S O nP nS nO p0 p1 p2 p3 p4 s0 s1 s2 s3 s4 u0 u1 t2 t9 o1 o2 v0 m news s Q E B' X' T' hk hd hu q1 q2 q3 l1 d1 d2 h2 h3 F9 N9 hret
  obtain ⟨b1, b2, b3, b4, aO⟩ := q3
  obtain ⟨b5, b6, b7, aS⟩ := q2
  obtain ⟨b8, b9, aP⟩ := q1
  have c1 : ∀ p ∈ news, p.1 ≠ L' + 1 := fun p hp => Nat.ne_of_lt (Nat.lt_succ_of_lt (l1 p hp))
  have c2 : ∀ p ∈ news, p.1 ≠ L' + 1 + 1 := fun p hp => Nat.ne_of_lt (Nat.lt_succ_of_lt (Nat.lt_succ_of_lt (l1 p hp)))
  have kMark := kstMark
  have rf : RestFacts O (L' + 1) (L' + 1 + 1) news := ⟨b3, Nat.lt_succ_self _, c2⟩
  obtain ⟨z0, z1, z2, z3, z4⟩ := twos_2 g1 g2
  k_with "binaryOp Mult int int" => (with_reducible refine PyProof.Rows.mul_int ?_ (IntMulOk.of_left (by decide +kernel)))
  k_with "compareOp Eq float float" => (first | (with_reducible refine eq_yes ?_) | (with_reducible refine eq_no ?_))
  k_with "compareOp Eq int int" => (first | (with_reducible refine eq_int_yes (by with_reducible assumption) ?_) | (with_reducible refine eq_int_no (by with_reducible assumption) ?_))
  k_with "compareOp NotEq int int" => ((with_reducible refine ne_same ?_))
  k_with "storeName int" => (k_here; (with_reducible show wpAny _ _ (storeName _ (Str.ofString "rest") _) _ _ _); k_dflt (refine' rest_store ?zzF ?zzN ?zzc ?zzm1 ?zzm2 ?zzm3 ?zzhn ?zzR ?zzd ?zza ?zzb ?_; (case zzF => k_asm); (case zzN => k_asm); (case zza => rfl); (case zzb => rfl); (case zzc => rfl); (case zzR => with_reducible assumption); (case zzm1 => k_memK); (case zzm2 => k_memK); (case zzm3 => k_memK); (case zzd => k_asm); (case zzhn => intro p hp; repeat (first | exact hp | refine List.Mem.tail _ ?_)); k_whole); intro h' o' F' N' d'; (try k_sweep))
  k_with "eval ListComp Name cons" => (k_here; (with_reducible show wpAny _ _ (eval (Expr.ListComp (Expr.Name (Str.ofString "share") _) _ _ _) _) _ _ _); k_dflt (refine LCt.ListComp_T (F₀ := by k_asm) (by with_unfolding_all rfl) (by decide) (by rfl) (by decide) (by rfl) ?_))
  k_with "CompSrcT Compare Name cons ref" => (k_here; k_dflt (first | refine LCt.CompSrcT.ledger (by rfl) (by k_asm) (by k_asm) (by k_memK) (by exact Nat.le_of_ble_eq_true rfl) ?_ | refine LCt.CompSrcT.range (n := 5) (by rfl) (by k_asm) (by k_asm) (by assumption) (by decide) (by rfl) (by exact Nat.le_of_ble_eq_true rfl) ?_); intro g9)
  k_with "CompSrcT Compare Name nil ref" => (k_here; k_dflt (first | refine LCt.CompSrcT.ledger (by rfl) (by k_asm) (by k_asm) (by k_memK) (by exact Nat.le_of_ble_eq_true rfl) ?_ | refine LCt.CompSrcT.range (n := 5) (by rfl) (by k_asm) (by k_asm) (by assumption) (by decide) (by rfl) (by exact Nat.le_of_ble_eq_true rfl) ?_); intro g9)
  k_with "call ref cons nil" => (k_here; (with_reducible show wpAny _ _ (call (Value.ref 102) _) _ _ _); k_dflt (refine CtrL.use (by k_asm) (by k_asm) (by k_asm) (by k_asm) (by k_asm) (by k_memK) (by with_reducible (first | exact numX _ _ _ _ (by assumption) (by assumption) _ _ _ _ _ | exact numY4 _ _ _ _ (by assumption) (by assumption) _ _ _ _ | exact numY3 _ _ _ _ (by assumption) (by assumption) _ _ _ | exact numY2 _ _ _ _ (by assumption) (by assumption) _ _ | exact numY1 _ _ _ _ _)) (by first | exact rfl | assumption) (by ktr_room) (by ktr_units) ?_; k_whole); intro r9 h9 tk9 F9 N9 o9; k_dflt (obtain ⟨t9, e9⟩ := o9; subst e9); (try k_sweep); (try dsimp only); (try k_fold))
  with_unfolding_all refine wpAny_execs_cons ?_
  k_fold
  k_steps
  all_goals (refine' tail_ret hret ?e ?F ?N ?hs; (case F => assumption); (case N => assumption); (case e => exact end_2 y); (case hs => intro p hp; repeat (first | exact hp | refine List.Mem.tail _ ?_)))
set_option maxRecDepth 100000 in
set_option maxHeartbeats 8000000 in
theorem tail_3 (w : World) (x y : Int) (hy0 : 0 ≤ y) (hy1 : y < 64) (g1 : x % 4 = 0) (g2 : x % 8 ≠ 0) : ∀ (mean : ExcName → Option Value) (mg mb : Str → Option Value) (dp un : Nat) (gd : Option (List Code)) (cn : Str) (cs : Scope) (L a : Addr) (ccd : Value) (cl : List (Str × Addr)) (outer : List Env) (base g' : Heap) (L' P S O : Addr) (nP nS nO : Nat) (p0 p1 p2 p3 p4 s0 s1 s2 s3 s4 u0 u1 u2 t2 t9 : Tok) (o1 o2 : Obj) (v0 : Option Value) (m : Str → Option Value) (news : Led) (s : Shared) (Q : Flow → Shared → Prop) (E : Value → Shared → Prop),
    Below (ktrTop dp un gd cn cs L a ccd cl outer) base (envX cn cs L a ccd cl :: outer) g' → (hd.heap_39 w.params).In g' → Top hd.view_39 LS mean mg mb g' → cs.kind = .function → dp + 20 < recursionLimit → un + 8 * 20 < cLine →
    (L' + 1 < P ∧ L' + 1 + 1 < P ∧ AllLt P news) → (P < S ∧ L' + 1 + 1 < S ∧ L' + 1 < S ∧ AllLt S news) → (S < O ∧ P < O ∧ L' + 1 + 1 < O ∧ L' + 1 < O ∧ AllLt O news) → (∀ p ∈ news, p.1 < L') → o1.data = .cell (some (.int x t9)) → o2.data = .cell v0 →
    FA [.float 0x3ff0000000000000 s0, .float 0x3ff0000000000000 s1, .float 0x3ff0000000000000 s2, .float 0x3fe0000000000000 s3, .float 0x3fe0000000000000 s4] [0x3ff0000000000000, 0x3ff0000000000000, 0x3ff0000000000000, 0x3fe0000000000000, 0x3fe0000000000000] → IntsAre [.int (y % 8) u0, .int (y / 2 % 8) u1, .int (y / 4 % 8) u2] [y % 8, y / 2 % 8, y / 4 % 8] →
    Fr g' L' s.heap (viewT O S P y t2 m) → News g' L' s.heap ((O, W.listOf [.int (y % 8) u0, .int (y / 2 % 8) u1, .int (y / 4 % 8) u2].toArray nO) :: (S, W.listOf [.float 0x3ff0000000000000 s0, .float 0x3ff0000000000000 s1, .float 0x3ff0000000000000 s2, .float 0x3fe0000000000000 s3, .float 0x3fe0000000000000 s4].toArray nS) :: (P, W.listOf [.int (x % 8) p0, .int (x / 2 % 8) p1, .int (x / 4 % 8) p2, .int (x / 8 % 8) p3, .int (x / 16 % 8) p4].toArray nP) :: (L' + 1 + 1, o2) :: (L' + 1, o1) :: news) →
    (∀ (h' : Heap) (tk' : Nat) (m : Str → Option Value) (full : Led), Fr g' L' h' m → News g' L' h' full → (∀ p ∈ news, p ∈ full) → Q (.ret (.bool true)) { s with heap := h', toks := tk' }) →
    wpAny (model PG w) ((ktrTop dp un gd cn cs L a ccd cl outer).deeper (envOfC (Str.ofString "_law_is_told") scopeT L' 107 (.ref 106))) (execs sufT (envOfC (Str.ofString "_law_is_told") scopeT L' 107 (.ref 106))) Q E s := by
  unfold PG LS; k_fill; k_with_none; w_top off
  intro mean mg mb dp un gd cn cs L a ccd cl outer base g' L' P S O nP nS nO p0 p1 p2 p3 p4 s0 s1 s2 s3 s4 u0 u1 u2 t2 t9 o1 o2 v0 m news s Q E B' X' T' hk hd hu q1 q2 q3 l1 d1 d2 h2 h3 F9 N9 hret
  obtain ⟨b1, b2, b3, b4, aO⟩ := q3
  obtain ⟨b5, b6, b7, aS⟩ := q2
  obtain ⟨b8, b9, aP⟩ := q1
  have c1 : ∀ p ∈ news, p.1 ≠ L' + 1 := fun p hp => Nat.ne_of_lt (Nat.lt_succ_of_lt (l1 p hp))
  have c2 : ∀ p ∈ news, p.1 ≠ L' + 1 + 1 := fun p hp => Nat.ne_of_lt (Nat.lt_succ_of_lt (Nat.lt_succ_of_lt (l1 p hp)))
  have kMark := kstMark
  have rf : RestFacts O (L' + 1) (L' + 1 + 1) news := ⟨b3, Nat.lt_succ_self _, c2⟩
  obtain ⟨z0, z1, z2, z3, z4⟩ := twos_3 g1 g2
  k_with "binaryOp Mult int int" => (with_reducible refine PyProof.Rows.mul_int ?_ (IntMulOk.of_left (by decide +kernel)))
  k_with "compareOp Eq float float" => (first | (with_reducible refine eq_yes ?_) | (with_reducible refine eq_no ?_))
  k_with "compareOp Eq int int" => (first | (with_reducible refine eq_int_yes (by with_reducible assumption) ?_) | (with_reducible refine eq_int_no (by with_reducible assumption) ?_))
  k_with "compareOp NotEq int int" => ((with_reducible refine ne_same ?_))
  k_with "storeName int" => (k_here; (with_reducible show wpAny _ _ (storeName _ (Str.ofString "rest") _) _ _ _); k_dflt (refine' rest_store ?zzF ?zzN ?zzc ?zzm1 ?zzm2 ?zzm3 ?zzhn ?zzR ?zzd ?zza ?zzb ?_; (case zzF => k_asm); (case zzN => k_asm); (case zza => rfl); (case zzb => rfl); (case zzc => rfl); (case zzR => with_reducible assumption); (case zzm1 => k_memK); (case zzm2 => k_memK); (case zzm3 => k_memK); (case zzd => k_asm); (case zzhn => intro p hp; repeat (first | exact hp | refine List.Mem.tail _ ?_)); k_whole); intro h' o' F' N' d'; (try k_sweep))
  k_with "eval ListComp Name cons" => (k_here; (with_reducible show wpAny _ _ (eval (Expr.ListComp (Expr.Name (Str.ofString "share") _) _ _ _) _) _ _ _); k_dflt (refine LCt.ListComp_T (F₀ := by k_asm) (by with_unfolding_all rfl) (by decide) (by rfl) (by decide) (by rfl) ?_))
  k_with "CompSrcT Compare Name cons ref" => (k_here; k_dflt (first | refine LCt.CompSrcT.ledger (by rfl) (by k_asm) (by k_asm) (by k_memK) (by exact Nat.le_of_ble_eq_true rfl) ?_ | refine LCt.CompSrcT.range (n := 5) (by rfl) (by k_asm) (by k_asm) (by assumption) (by decide) (by rfl) (by exact Nat.le_of_ble_eq_true rfl) ?_); intro g9)
  k_with "CompSrcT Compare Name nil ref" => (k_here; k_dflt (first | refine LCt.CompSrcT.ledger (by rfl) (by k_asm) (by k_asm) (by k_memK) (by exact Nat.le_of_ble_eq_true rfl) ?_ | refine LCt.CompSrcT.range (n := 5) (by rfl) (by k_asm) (by k_asm) (by assumption) (by decide) (by rfl) (by exact Nat.le_of_ble_eq_true rfl) ?_); intro g9)
  k_with "call ref cons nil" => (k_here; (with_reducible show wpAny _ _ (call (Value.ref 102) _) _ _ _); k_dflt (refine CtrL.use (by k_asm) (by k_asm) (by k_asm) (by k_asm) (by k_asm) (by k_memK) (by with_reducible (first | exact numX _ _ _ _ (by assumption) (by assumption) _ _ _ _ _ | exact numY4 _ _ _ _ (by assumption) (by assumption) _ _ _ _ | exact numY3 _ _ _ _ (by assumption) (by assumption) _ _ _ | exact numY2 _ _ _ _ (by assumption) (by assumption) _ _ | exact numY1 _ _ _ _ _)) (by first | exact rfl | assumption) (by ktr_room) (by ktr_units) ?_; k_whole); intro r9 h9 tk9 F9 N9 o9; k_dflt (obtain ⟨t9, e9⟩ := o9; subst e9); (try k_sweep); (try dsimp only); (try k_fold))
  with_unfolding_all refine wpAny_execs_cons ?_
  k_fold
  k_steps
  all_goals (refine' tail_ret hret ?e ?F ?N ?hs; (case F => assumption); (case N => assumption); (case e => exact end_3 y); (case hs => intro p hp; repeat (first | exact hp | refine List.Mem.tail _ ?_)))
set_option maxRecDepth 100000 in
set_option maxHeartbeats 8000000 in
theorem tail_4 (w : World) (x y : Int) (hy0 : 0 ≤ y) (hy1 : y < 64) (g1 : x % 8 = 0) (g2 : x % 16 ≠ 0) : ∀ (mean : ExcName → Option Value) (mg mb : Str → Option Value) (dp un : Nat) (gd : Option (List Code)) (cn : Str) (cs : Scope) (L a : Addr) (ccd : Value) (cl : List (Str × Addr)) (outer : List Env) (base g' : Heap) (L' P S O : Addr) (nP nS nO : Nat) (p0 p1 p2 p3 p4 s0 s1 s2 s3 s4 u0 u1 u2 u3 t2 t9 : Tok) (o1 o2 : Obj) (v0 : Option Value) (m : Str → Option Value) (news : Led) (s : Shared) (Q : Flow → Shared → Prop) (E : Value → Shared → Prop),
    Below (ktrTop dp un gd cn cs L a ccd cl outer) base (envX cn cs L a ccd cl :: outer) g' → (hd.heap_39 w.params).In g' → Top hd.view_39 LS mean mg mb g' → cs.kind = .function → dp + 20 < recursionLimit → un + 8 * 20 < cLine →
    (L' + 1 < P ∧ L' + 1 + 1 < P ∧ AllLt P news) → (P < S ∧ L' + 1 + 1 < S ∧ L' + 1 < S ∧ AllLt S news) → (S < O ∧ P < O ∧ L' + 1 + 1 < O ∧ L' + 1 < O ∧ AllLt O news) → (∀ p ∈ news, p.1 < L') → o1.data = .cell (some (.int x t9)) → o2.data = .cell v0 →
    FA [.float 0x3ff0000000000000 s0, .float 0x3ff0000000000000 s1, .float 0x3ff0000000000000 s2, .float 0x3ff0000000000000 s3, .float 0x3fe0000000000000 s4] [0x3ff0000000000000, 0x3ff0000000000000, 0x3ff0000000000000, 0x3ff0000000000000, 0x3fe0000000000000] → IntsAre [.int (y % 8) u0, .int (y / 2 % 8) u1, .int (y / 4 % 8) u2, .int (y / 8 % 8) u3] [y % 8, y / 2 % 8, y / 4 % 8, y / 8 % 8] →
    Fr g' L' s.heap (viewT O S P y t2 m) → News g' L' s.heap ((O, W.listOf [.int (y % 8) u0, .int (y / 2 % 8) u1, .int (y / 4 % 8) u2, .int (y / 8 % 8) u3].toArray nO) :: (S, W.listOf [.float 0x3ff0000000000000 s0, .float 0x3ff0000000000000 s1, .float 0x3ff0000000000000 s2, .float 0x3ff0000000000000 s3, .float 0x3fe0000000000000 s4].toArray nS) :: (P, W.listOf [.int (x % 8) p0, .int (x / 2 % 8) p1, .int (x / 4 % 8) p2, .int (x / 8 % 8) p3, .int (x / 16 % 8) p4].toArray nP) :: (L' + 1 + 1, o2) :: (L' + 1, o1) :: news) →
    (∀ (h' : Heap) (tk' : Nat) (m : Str → Option Value) (full : Led), Fr g' L' h' m → News g' L' h' full → (∀ p ∈ news, p ∈ full) → Q (.ret (.bool true)) { s with heap := h', toks := tk' }) →
    wpAny (model PG w) ((ktrTop dp un gd cn cs L a ccd cl outer).deeper (envOfC (Str.ofString "_law_is_told") scopeT L' 107 (.ref 106))) (execs sufT (envOfC (Str.ofString "_law_is_told") scopeT L' 107 (.ref 106))) Q E s := by
  unfold PG LS; k_fill; k_with_none; w_top off
  intro mean mg mb dp un gd cn cs L a ccd cl outer base g' L' P S O nP nS nO p0 p1 p2 p3 p4 s0 s1 s2 s3 s4 u0 u1 u2 u3 t2 t9 o1 o2 v0 m news s Q E B' X' T' hk hd hu q1 q2 q3 l1 d1 d2 h2 h3 F9 N9 hret
  obtain ⟨b1, b2, b3, b4, aO⟩ := q3
  obtain ⟨b5, b6, b7, aS⟩ := q2
  obtain ⟨b8, b9, aP⟩ := q1
  have c1 : ∀ p ∈ news, p.1 ≠ L' + 1 := fun p hp => Nat.ne_of_lt (Nat.lt_succ_of_lt (l1 p hp))
  have c2 : ∀ p ∈ news, p.1 ≠ L' + 1 + 1 := fun p hp => Nat.ne_of_lt (Nat.lt_succ_of_lt (Nat.lt_succ_of_lt (l1 p hp)))
  have kMark := kstMark
  have rf : RestFacts O (L' + 1) (L' + 1 + 1) news := ⟨b3, Nat.lt_succ_self _, c2⟩
  obtain ⟨z0, z1, z2, z3, z4⟩ := twos_4 g1 g2
  k_with "binaryOp Mult int int" => (with_reducible refine PyProof.Rows.mul_int ?_ (IntMulOk.of_left (by decide +kernel)))
  k_with "compareOp Eq float float" => (first | (with_reducible refine eq_yes ?_) | (with_reducible refine eq_no ?_))
  k_with "compareOp Eq int int" => (first | (with_reducible refine eq_int_yes (by with_reducible assumption) ?_) | (with_reducible refine eq_int_no (by with_reducible assumption) ?_))
  k_with "compareOp NotEq int int" => ((with_reducible refine ne_same ?_))
  k_with "storeName int" => (k_here; (with_reducible show wpAny _ _ (storeName _ (Str.ofString "rest") _) _ _ _); k_dflt (refine' rest_store ?zzF ?zzN ?zzc ?zzm1 ?zzm2 ?zzm3 ?zzhn ?zzR ?zzd ?zza ?zzb ?_; (case zzF => k_asm); (case zzN => k_asm); (case zza => rfl); (case zzb => rfl); (case zzc => rfl); (case zzR => with_reducible assumption); (case zzm1 => k_memK); (case zzm2 => k_memK); (case zzm3 => k_memK); (case zzd => k_asm); (case zzhn => intro p hp; repeat (first | exact hp | refine List.Mem.tail _ ?_)); k_whole); intro h' o' F' N' d'; (try k_sweep))
  k_with "eval ListComp Name cons" => (k_here; (with_reducible show wpAny _ _ (eval (Expr.ListComp (Expr.Name (Str.ofString "share") _) _ _ _) _) _ _ _); k_dflt (refine LCt.ListComp_T (F₀ := by k_asm) (by with_unfolding_all rfl) (by decide) (by rfl) (by decide) (by rfl) ?_))
  k_with "CompSrcT Compare Name cons ref" => (k_here; k_dflt (first | refine LCt.CompSrcT.ledger (by rfl) (by k_asm) (by k_asm) (by k_memK) (by exact Nat.le_of_ble_eq_true rfl) ?_ | refine LCt.CompSrcT.range (n := 5) (by rfl) (by k_asm) (by k_asm) (by assumption) (by decide) (by rfl) (by exact Nat.le_of_ble_eq_true rfl) ?_); intro g9)
  k_with "CompSrcT Compare Name nil ref" => (k_here; k_dflt (first | refine LCt.CompSrcT.ledger (by rfl) (by k_asm) (by k_asm) (by k_memK) (by exact Nat.le_of_ble_eq_true rfl) ?_ | refine LCt.CompSrcT.range (n := 5) (by rfl) (by k_asm) (by k_asm) (by assumption) (by decide) (by rfl) (by exact Nat.le_of_ble_eq_true rfl) ?_); intro g9)
  k_with "call ref cons nil" => (k_here; (with_reducible show wpAny _ _ (call (Value.ref 102) _) _ _ _); k_dflt (refine CtrL.use (by k_asm) (by k_asm) (by k_asm) (by k_asm) (by k_asm) (by k_memK) (by with_reducible (first | exact numX _ _ _ _ (by assumption) (by assumption) _ _ _ _ _ | exact numY4 _ _ _ _ (by assumption) (by assumption) _ _ _ _ | exact numY3 _ _ _ _ (by assumption) (by assumption) _ _ _ | exact numY2 _ _ _ _ (by assumption) (by assumption) _ _ | exact numY1 _ _ _ _ _)) (by first | exact rfl | assumption) (by ktr_room) (by ktr_units) ?_; k_whole); intro r9 h9 tk9 F9 N9 o9; k_dflt (obtain ⟨t9, e9⟩ := o9; subst e9); (try k_sweep); (try dsimp only); (try k_fold))
  with_unfolding_all refine wpAny_execs_cons ?_
  k_fold
  k_steps
  all_goals (refine' tail_ret hret ?e ?F ?N ?hs; (case F => assumption); (case N => assumption); (case e => exact end_4 y); (case hs => intro p hp; repeat (first | exact hp | refine List.Mem.tail _ ?_)))
set_option maxRecDepth 100000 in
set_option maxHeartbeats 8000000 in
theorem tail_5 (w : World) (x y : Int) (hy0 : 0 ≤ y) (hy1 : y < 64) (g1 : x % 16 = 0) : ∀ (mean : ExcName → Option Value) (mg mb : Str → Option Value) (dp un : Nat) (gd : Option (List Code)) (cn : Str) (cs : Scope) (L a : Addr) (ccd : Value) (cl : List (Str × Addr)) (outer : List Env) (base g' : Heap) (L' P S O : Addr) (nP nS nO : Nat) (p0 p1 p2 p3 p4 s0 s1 s2 s3 s4 u0 u1 u2 u3 u4 t2 t9 : Tok) (o1 o2 : Obj) (v0 : Option Value) (m : Str → Option Value) (news : Led) (s : Shared) (Q : Flow → Shared → Prop) (E : Value → Shared → Prop),
    Below (ktrTop dp un gd cn cs L a ccd cl outer) base (envX cn cs L a ccd cl :: outer) g' → (hd.heap_39 w.params).In g' → Top hd.view_39 LS mean mg mb g' → cs.kind = .function → dp + 20 < recursionLimit → un + 8 * 20 < cLine →
    (L' + 1 < P ∧ L' + 1 + 1 < P ∧ AllLt P news) → (P < S ∧ L' + 1 + 1 < S ∧ L' + 1 < S ∧ AllLt S news) → (S < O ∧ P < O ∧ L' + 1 + 1 < O ∧ L' + 1 < O ∧ AllLt O news) → (∀ p ∈ news, p.1 < L') → o1.data = .cell (some (.int x t9)) → o2.data = .cell v0 →
    FA [.float 0x3ff0000000000000 s0, .float 0x3ff0000000000000 s1, .float 0x3ff0000000000000 s2, .float 0x3ff0000000000000 s3, .float 0x3ff0000000000000 s4] [0x3ff0000000000000, 0x3ff0000000000000, 0x3ff0000000000000, 0x3ff0000000000000, 0x3ff0000000000000] → IntsAre [.int (y % 8) u0, .int (y / 2 % 8) u1, .int (y / 4 % 8) u2, .int (y / 8 % 8) u3, .int (y / 16 % 8) u4] [y % 8, y / 2 % 8, y / 4 % 8, y / 8 % 8, y / 16 % 8] →
    Fr g' L' s.heap (viewT O S P y t2 m) → News g' L' s.heap ((O, W.listOf [.int (y % 8) u0, .int (y / 2 % 8) u1, .int (y / 4 % 8) u2, .int (y / 8 % 8) u3, .int (y / 16 % 8) u4].toArray nO) :: (S, W.listOf [.float 0x3ff0000000000000 s0, .float 0x3ff0000000000000 s1, .float 0x3ff0000000000000 s2, .float 0x3ff0000000000000 s3, .float 0x3ff0000000000000 s4].toArray nS) :: (P, W.listOf [.int (x % 8) p0, .int (x / 2 % 8) p1, .int (x / 4 % 8) p2, .int (x / 8 % 8) p3, .int (x / 16 % 8) p4].toArray nP) :: (L' + 1 + 1, o2) :: (L' + 1, o1) :: news) →
    (∀ (h' : Heap) (tk' : Nat) (m : Str → Option Value) (full : Led), Fr g' L' h' m → News g' L' h' full → (∀ p ∈ news, p ∈ full) → Q (.ret (.bool true)) { s with heap := h', toks := tk' }) →
    wpAny (model PG w) ((ktrTop dp un gd cn cs L a ccd cl outer).deeper (envOfC (Str.ofString "_law_is_told") scopeT L' 107 (.ref 106))) (execs sufT (envOfC (Str.ofString "_law_is_told") scopeT L' 107 (.ref 106))) Q E s := by
  unfold PG LS; k_fill; k_with_none; w_top off
  intro mean mg mb dp un gd cn cs L a ccd cl outer base g' L' P S O nP nS nO p0 p1 p2 p3 p4 s0 s1 s2 s3 s4 u0 u1 u2 u3 u4 t2 t9 o1 o2 v0 m news s Q E B' X' T' hk hd hu q1 q2 q3 l1 d1 d2 h2 h3 F9 N9 hret
  obtain ⟨b1, b2, b3, b4, aO⟩ := q3
  obtain ⟨b5, b6, b7, aS⟩ := q2
  obtain ⟨b8, b9, aP⟩ := q1
  have c1 : ∀ p ∈ news, p.1 ≠ L' + 1 := fun p hp => Nat.ne_of_lt (Nat.lt_succ_of_lt (l1 p hp))
  have c2 : ∀ p ∈ news, p.1 ≠ L' + 1 + 1 := fun p hp => Nat.ne_of_lt (Nat.lt_succ_of_lt (Nat.lt_succ_of_lt (l1 p hp)))
  have kMark := kstMark
  have rf : RestFacts O (L' + 1) (L' + 1 + 1) news := ⟨b3, Nat.lt_succ_self _, c2⟩
  obtain ⟨z0, z1, z2, z3, z4⟩ := twos_5 g1
  k_with "binaryOp Mult int int" => (with_reducible refine PyProof.Rows.mul_int ?_ (IntMulOk.of_left (by decide +kernel)))
  k_with "compareOp Eq float float" => (first | (with_reducible refine eq_yes ?_) | (with_reducible refine eq_no ?_))
  k_with "compareOp Eq int int" => (first | (with_reducible refine eq_int_yes (by with_reducible assumption) ?_) | (with_reducible refine eq_int_no (by with_reducible assumption) ?_))
  k_with "compareOp NotEq int int" => ((with_reducible refine ne_same ?_))
  k_with "storeName int" => (k_here; (with_reducible show wpAny _ _ (storeName _ (Str.ofString "rest") _) _ _ _); k_dflt (refine' rest_store ?zzF ?zzN ?zzc ?zzm1 ?zzm2 ?zzm3 ?zzhn ?zzR ?zzd ?zza ?zzb ?_; (case zzF => k_asm); (case zzN => k_asm); (case zza => rfl); (case zzb => rfl); (case zzc => rfl); (case zzR => with_reducible assumption); (case zzm1 => k_memK); (case zzm2 => k_memK); (case zzm3 => k_memK); (case zzd => k_asm); (case zzhn => intro p hp; repeat (first | exact hp | refine List.Mem.tail _ ?_)); k_whole); intro h' o' F' N' d'; (try k_sweep))
  k_with "eval ListComp Name cons" => (k_here; (with_reducible show wpAny _ _ (eval (Expr.ListComp (Expr.Name (Str.ofString "share") _) _ _ _) _) _ _ _); k_dflt (refine LCt.ListComp_T (F₀ := by k_asm) (by with_unfolding_all rfl) (by decide) (by rfl) (by decide) (by rfl) ?_))
  k_with "CompSrcT Compare Name cons ref" => (k_here; k_dflt (first | refine LCt.CompSrcT.ledger (by rfl) (by k_asm) (by k_asm) (by k_memK) (by exact Nat.le_of_ble_eq_true rfl) ?_ | refine LCt.CompSrcT.range (n := 5) (by rfl) (by k_asm) (by k_asm) (by assumption) (by decide) (by rfl) (by exact Nat.le_of_ble_eq_true rfl) ?_); intro g9)
  k_with "CompSrcT Compare Name nil ref" => (k_here; k_dflt (first | refine LCt.CompSrcT.ledger (by rfl) (by k_asm) (by k_asm) (by k_memK) (by exact Nat.le_of_ble_eq_true rfl) ?_ | refine LCt.CompSrcT.range (n := 5) (by rfl) (by k_asm) (by k_asm) (by assumption) (by decide) (by rfl) (by exact Nat.le_of_ble_eq_true rfl) ?_); intro g9)
  k_with "call ref cons nil" => (k_here; (with_reducible show wpAny _ _ (call (Value.ref 102) _) _ _ _); k_dflt (refine CtrL.use (by k_asm) (by k_asm) (by k_asm) (by k_asm) (by k_asm) (by k_memK) (by with_reducible (first | exact numX _ _ _ _ (by assumption) (by assumption) _ _ _ _ _ | exact numY4 _ _ _ _ (by assumption) (by assumption) _ _ _ _ | exact numY3 _ _ _ _ (by assumption) (by assumption) _ _ _ | exact numY2 _ _ _ _ (by assumption) (by assumption) _ _ | exact numY1 _ _ _ _ _)) (by first | exact rfl | assumption) (by ktr_room) (by ktr_units) ?_; k_whole); intro r9 h9 tk9 F9 N9 o9; k_dflt (obtain ⟨t9, e9⟩ := o9; subst e9); (try k_sweep); (try dsimp only); (try k_fold))
  with_unfolding_all refine wpAny_execs_cons ?_
  k_fold
  k_steps
  all_goals (refine' tail_ret hret ?e ?F ?N ?hs; (case F => assumption); (case N => assumption); (case e => exact end_5 hy0 hy1); (case hs => intro p hp; repeat (first | exact hp | refine List.Mem.tail _ ?_)))


set_option maxRecDepth 100000 in
set_option maxHeartbeats 40000000 in
theorem told_ctr (w : World) (x y : Int) (t1 t2 : Tok) (hx0 : 0 ≤ x) (hx1 : x < 64) (hy0 : 0 ≤ y) (hy1 : y < 64) : Ctr 20 w 107 [.int x t1, .int y t2] (OneB true) := by
  unfold Ctr PG LS; k_fill; k_with_none; w_top off
  intro mean mg mb dp un gd cn cs a ccd cl outer A₀ base h₀ L mm news s Q E B F X N T hk hd hu hret
  k_with_none
  k_with "pyIter ref" => refine Stop.out ?_
  refine wpAny_call ?_
  k_dflt (refine' code_defC ?k1 ?k2 ?k3 ?k4 ?k5 ?kA ?kF ?kK ?k6 ?k7 ?k8 ?k9 ?kB ?kD ?_ ?c2 ?c3 ?c4; (case kA => exact rfl); (case kF => exact rfl); (case kK => assumption); (case k1 => k_asm); (case k2 => k_asm); (case k3 => k_asm); (case k4 => k_asm); (case k5 => k_asm); (case k6 => k_is); (case k7 => k_is); (case k8 => ktr_room); (case k9 => exact BindsTo.of_eq rfl); (case kB => exact rfl); (case kD => decide +kernel); (case c2 => exact rfl); (case c3 => exact rfl); (case c4 => exact rfl); k_whole; intro g' L' h' tk' cells' FG' F' N' Y' B' X' T' l1; (try k_lt l1); k_cells Y'; (try simp only [List.cons_append, List.nil_append] at N'); (try dsimp only); (try k_lift B'); (try k_fold))
  k_steps
  unfold Stop
  k_with_none
  rename IsRange _ _ _ _ _ _ _ _ => hR
  rename Fr _ _ _ _ => lF
  rename News _ _ _ _ => lN
  rename (_ < _ ∧ _) => q3
  obtain ⟨b1, b2, b3, b4, aO⟩ := q3
  rename (_ < _ ∧ _) => q2
  obtain ⟨b5, b6, b7, aS⟩ := q2
  rename (_ < _ ∧ _) => q1
  obtain ⟨b8, b9, aP⟩ := q1
  with_unfolding_all refine' kst_range (LedL _ _ _ _) psL (fun _ => True) storedL (fun pre c => LInv x y pre.length c) ⟨[], 0, [], 0, [], 0, txt (T1 x.toNat y.toNat), ?tt⟩ rfl hR (by decide) (n := 5) (by decide) lF lN trivial ?hk (inv0 x y ?tt) ?turn ?done
  case hk => exact List.forall_mem_cons.mpr ⟨by with_unfolding_all rfl, List.forall_mem_nil _⟩
  case turn =>
    intro c pre k t u h tk own hk9 hlt hoff hT9 hP F9 N9
    clear hT9 lF lN hR
    obtain ⟨n, hn⟩ : ∃ n, n = x / 2 ^ pre.length := ⟨_, rfl⟩
    obtain ⟨m, hm⟩ : ∃ m, m = y / 2 ^ pre.length := ⟨_, rfl⟩
    have hn0 : 0 ≤ n := by rw [hn]; exact Int.ediv_nonneg hx0 (Int.le_of_lt (pow_pos _))
    have hm0 : 0 ≤ m := by rw [hm]; exact Int.ediv_nonneg hy0 (Int.le_of_lt (pow_pos _))
    have hn1 : n < 64 := by rw [hn]; exact Int.lt_of_le_of_lt (Int.ediv_le_self _ hx0) hx1
    have hm1 : m < 64 := by rw [hm]; exact Int.lt_of_le_of_lt (Int.ediv_le_self _ hy0) hy1
    have hj0 : 0 ≤ n % 8 := by omega
    have hj1 : n % 8 < 8 := by omega
    have htx := hP.2.2.2
    have hvP : c.vP.length ≤ 5 := by rw [hP.1.length, len_places]; omega
    have hvS : c.vS.length ≤ 5 := by rw [hP.2.1.len, len_shares]; omega
    have hvO : c.vO.length ≤ 5 := by have := len_others x y pre.length; rw [hP.2.2.1.length]; omega
    have ok3 := other_ok m hm0 hm1
    k_with "call builtin:round cons nil" => (first | refine round_place rfl (by assumption) (by assumption) ?_ | refine round_far rfl (by assumption) ?_)
    k_with "compareOp NotEq float float" => (first | refine ne_place (by assumption) (by assumption) ?_ | refine ne_ones ?_)
    k_with "call ref cons nil" => (k_here; (with_reducible show wpAny _ _ (call (Value.ref _) _) _ _ _); k_dflt (refine Ctr.use (by k_asm) (by k_asm) (by k_asm) (by k_asm) (by k_asm) (by with_reducible (first | exact seen0_ctr _ _ _ (by assumption) (by assumption) | exact seen1_ctr _ _ _ _ (by assumption) (by assumption) (by assumption) (by assumption) | exact back_at _ _ _ _ _ _ (by assumption) | exact backL_at _ _ _ _ _ (by assumption) | exact near3_at _ _ _ _ (by assumption) | exact near2_at _ _ _ _ (by assumption) | exact near1_at _ _ _ _ (by assumption) | exact parse_txt _ _ _ (by first | (simp only [len_T0]; omega) | (simp only [len_T1]; omega)))) (by first | exact rfl | assumption) (by ktr_room) (by ktr_units) ?_; k_whole); intro r9 tl9 h9 tk9 F9 N9 l9 o9; k_dflt (first
      | (obtain ⟨D9, t7, t8, t9, p9, e9, e8⟩ := o9; subst e9; subst e8; replace l9 := l9 _ (List.mem_singleton_self _); (try dsimp only at l9); (try k_lt l9))
      | (obtain ⟨D9, t7, t8, t9, e9, e8⟩ := o9; subst e9; subst e8; replace l9 := l9 _ (List.mem_singleton_self _); (try dsimp only at l9); (try k_lt l9))
      | (obtain ⟨D9, D8, D7, t9, t8, t7, t6, t5, t4, e9, e8⟩ := o9; subst e9; subst e8; (have l8 := l9 _ (List.mem_cons_self)); (have l7 := l9 _ (List.mem_cons_of_mem _ List.mem_cons_self)); (have l6 := l9 _ (List.mem_cons_of_mem _ (List.mem_cons_of_mem _ List.mem_cons_self))); clear l9; (try dsimp only at l8 l7 l6); (try k_lt l8); (try k_lt l7); (try k_lt l6))
      | (obtain ⟨D9, D8, t9, t8, t7, e9, e8⟩ := o9; subst e9; subst e8; (have l8 := l9 _ (List.mem_cons_self)); (have l7 := l9 _ (List.mem_cons_of_mem _ List.mem_cons_self)); clear l9; (try dsimp only at l8 l7); (try k_lt l8); (try k_lt l7))
      | (obtain ⟨e9, e8⟩ := o9; subst e9; subst e8; clear l9)
      | (obtain ⟨t9, e9, e8⟩ := o9; subst e9; subst e8; clear l9)); (try simp only [List.cons_append, List.nil_append] at N9); (try k_sweep); (try dsimp only); (try k_fold))
    by_cases hq : x % 2 ^ pre.length = 0
    · have ok1 := seen_one n hn0 hn1
      have htx : c.tx = txt (T1 n.toNat m.toNat) := by rw [htx]; unfold TX; rw [if_pos hq, hn, hm]
      obtain ⟨vP, nP, vS, nS, vO, nO, tx, tt⟩ := c
      dsimp only at htx hvP hvS hvO
      subst htx
      dsimp only [LedL, psL, kstB, storedL, List.cons_append, List.map] at F9 N9 hoff
      show wpAny _ _ _ _ _ _
      k_fold
      k_steps
      rename News _ _ _ _ => nE
      rename Fr _ _ _ _ => fE
      try simp only [List.push_toArray] at nE
      refine' kst_end ⟨vP ++ [.int (n % 8) ?a1], ?a2, vS ++ [.float 0x3ff0000000000000 ?a3], ?a4, vO ++ [.int ?a5 ?a6], ?a7, txt (scan (T1 n.toNat m.toNat)), ?a8⟩ fE nE ?an ?ao ?aa trivial ?ak ?ar ?ap
      case an => dsimp only [LedL]; kst_in
      case ao => intro p9 h9; kst_mem
      case aa => rfl
      case ak => dsimp only [psL]; kst_all
      case ar => dsimp only [psL, storedL]; kst_same
      case ap =>
        rw [List.length_append, List.length_singleton]
        exact inv1 hx0 hy0 hP hq hn hm (far_is ok3) _ _ _ _ (by assumption) _ _ _
    · have ok1 := seen_half n hn0 hn1
      have htx : c.tx = txt (T0 n.toNat) := by rw [htx]; unfold TX; rw [if_neg hq, hn]
      obtain ⟨vP, nP, vS, nS, vO, nO, tx, tt⟩ := c
      dsimp only at htx hvP hvS hvO
      subst htx
      dsimp only [LedL, psL, kstB, storedL, List.cons_append, List.map] at F9 N9 hoff
      show wpAny _ _ _ _ _ _
      k_fold
      k_steps
      rename News _ _ _ _ => nE
      rename Fr _ _ _ _ => fE
      try simp only [List.push_toArray] at nE
      refine' kst_end ⟨vP ++ [.int (n % 8) ?c1], ?c2, vS ++ [.float 0x3fe0000000000000 ?c3], ?c4, vO, nO, txt (scan (T0 n.toNat)), ?c8⟩ fE nE ?cn ?co ?ca trivial ?ck ?cr ?cp
      case cn => dsimp only [LedL]; kst_in
      case co => intro p9 h9; kst_mem
      case ca => rfl
      case ck => dsimp only [psL]; kst_all
      case cr => dsimp only [psL, storedL]; kst_same
      case cp =>
        rw [List.length_append, List.length_singleton]
        exact inv2 hx0 hP hq hn _ _ _ (by assumption) _ _
  case done =>
    intro c u h tk hT9 hP F9 N9
    clear hT9 lF lN hR
    rw [rangeKs_length] at hP
    obtain ⟨vP, nP, vS, nS, vO, nO, tx, tt⟩ := c
    obtain ⟨h1, h2, h3, h4⟩ := hP
    dsimp only at h1 h2 h3 h4
    rw [places5] at h1
    obtain ⟨p0, p1, p2, p3, p4, e1⟩ := ints5 h1
    subst e1; subst h4
    dsimp only [LedL, psL, kstB, storedL] at F9 N9
    have c1 : ∀ p ∈ news, p.1 ≠ L' + 1 := fun p hp => Nat.ne_of_lt (Nat.lt_succ_of_lt (l1 p hp))
    have c2 : ∀ p ∈ news, p.1 ≠ L' + 1 + 1 := fun p hp => Nat.ne_of_lt (Nat.lt_succ_of_lt (Nat.lt_succ_of_lt (l1 p hp)))
    have kMark := kstMark
    have fp : FirstPart := ⟨trivial⟩
    k_with_none
    k_with "compareOp NotEq int int" => ((with_reducible refine ne_same ?_))
    k_with "call ref cons nil" => (k_here; (with_reducible show wpAny _ _ (call (Value.ref 102) _) _ _ _); k_dflt (refine CtrL.use (by k_asm) (by k_asm) (by k_asm) (by k_asm) (by k_asm) (by k_memK) (by with_reducible (first | exact numX _ _ _ _ (by assumption) (by assumption) _ _ _ _ _ | exact numY4 _ _ _ _ (by assumption) (by assumption) _ _ _ _ | exact numY3 _ _ _ _ (by assumption) (by assumption) _ _ _ | exact numY2 _ _ _ _ (by assumption) (by assumption) _ _ | exact numY1 _ _ _ _ _)) (by first | exact rfl | assumption) (by ktr_room) (by ktr_units) ?_; k_whole); intro r9 h9 tk9 F9 N9 o9; k_dflt (obtain ⟨t9, e9⟩ := o9; subst e9); (try k_sweep); (try dsimp only); (try k_fold))
    k_steps
    unfold Stop
    rename News _ _ _ _ => nE
    rename Fr _ _ _ _ => fE
    have nE2 := kst_newsOf nE (l' := _) (fun p hp => List.mem_cons_of_mem _ hp)
    clear nE
    show wpAny _ _ _ _ _ _
    k_fold
    have hq : ∀ (h9 : Heap) (tk9 : Nat) (m9 : Str → Option Value) (full : Led), Fr g' L' h9 m9 → News g' L' h9 full → (∀ p ∈ news, p ∈ full) → qk (Flow.ret (.bool true)) { s with heap := h9, toks := tk9 } := by
      intro h9 tk9 m9 full F8 N8 hs8
      k_steps
      all_goals (refine' done_ret hret rfl ?F ?N ?hs; (case F => assumption); (case N => assumption); (case hs => assumption))
    rcases cases5 x with g1 | ⟨g1, g2⟩ | ⟨g1, g2⟩ | ⟨g1, g2⟩ | g1
    · rw [shares_1 g1] at h2
      rw [others_1 g1] at h3
      obtain ⟨s0, s1, s2, s3, s4, e2⟩ := fa5 h2
      obtain ⟨u0, e3⟩ := ints1 h3
      subst e2; subst e3
      refine' tail_1 w x y hy0 hy1 g1 mean mg mb dp un gd cn cs L a ccd cl outer base g' L' _ _ _ nP nS nO p0 p1 p2 p3 p4 s0 s1 s2 s3 s4 u0 t2 _ _ _ _ _ news _ _ _ B' X' T' hk hd hu ⟨b9, b8, aP⟩ ⟨b5, b6, b7, aS⟩ ⟨b1, b2, b3, b4, aO⟩ l1 ?d1 ?d2 h2 h3 (fr_view fE ?v1 ?v2 ?v3 ?v4) nE2 hq
      case d1 => assumption
      case d2 => assumption
      case v1 => rfl
      case v2 => rfl
      case v3 => rfl
      case v4 => rfl
    · rw [shares_2 g1 g2] at h2
      rw [others_2 g1 g2] at h3
      obtain ⟨s0, s1, s2, s3, s4, e2⟩ := fa5 h2
      obtain ⟨u0, u1, e3⟩ := ints2 h3
      subst e2; subst e3
      refine' tail_2 w x y hy0 hy1 g1 g2 mean mg mb dp un gd cn cs L a ccd cl outer base g' L' _ _ _ nP nS nO p0 p1 p2 p3 p4 s0 s1 s2 s3 s4 u0 u1 t2 _ _ _ _ _ news _ _ _ B' X' T' hk hd hu ⟨b9, b8, aP⟩ ⟨b5, b6, b7, aS⟩ ⟨b1, b2, b3, b4, aO⟩ l1 ?d1 ?d2 h2 h3 (fr_view fE ?v1 ?v2 ?v3 ?v4) nE2 hq
      case d1 => assumption
      case d2 => assumption
      case v1 => rfl
      case v2 => rfl
      case v3 => rfl
      case v4 => rfl
    · rw [shares_3 g1 g2] at h2
      rw [others_3 g1 g2] at h3
      obtain ⟨s0, s1, s2, s3, s4, e2⟩ := fa5 h2
      obtain ⟨u0, u1, u2, e3⟩ := ints3 h3
      subst e2; subst e3
      refine' tail_3 w x y hy0 hy1 g1 g2 mean mg mb dp un gd cn cs L a ccd cl outer base g' L' _ _ _ nP nS nO p0 p1 p2 p3 p4 s0 s1 s2 s3 s4 u0 u1 u2 t2 _ _ _ _ _ news _ _ _ B' X' T' hk hd hu ⟨b9, b8, aP⟩ ⟨b5, b6, b7, aS⟩ ⟨b1, b2, b3, b4, aO⟩ l1 ?d1 ?d2 h2 h3 (fr_view fE ?v1 ?v2 ?v3 ?v4) nE2 hq
      case d1 => assumption
      case d2 => assumption
      case v1 => rfl
      case v2 => rfl
      case v3 => rfl
      case v4 => rfl
    · rw [shares_4 g1 g2] at h2
      rw [others_4 g1 g2] at h3
      obtain ⟨s0, s1, s2, s3, s4, e2⟩ := fa5 h2
      obtain ⟨u0, u1, u2, u3, e3⟩ := ints4 h3
      subst e2; subst e3
      refine' tail_4 w x y hy0 hy1 g1 g2 mean mg mb dp un gd cn cs L a ccd cl outer base g' L' _ _ _ nP nS nO p0 p1 p2 p3 p4 s0 s1 s2 s3 s4 u0 u1 u2 u3 t2 _ _ _ _ _ news _ _ _ B' X' T' hk hd hu ⟨b9, b8, aP⟩ ⟨b5, b6, b7, aS⟩ ⟨b1, b2, b3, b4, aO⟩ l1 ?d1 ?d2 h2 h3 (fr_view fE ?v1 ?v2 ?v3 ?v4) nE2 hq
      case d1 => assumption
      case d2 => assumption
      case v1 => rfl
      case v2 => rfl
      case v3 => rfl
      case v4 => rfl
    · rw [shares_5 g1] at h2
      rw [others_5 g1] at h3
      obtain ⟨s0, s1, s2, s3, s4, e2⟩ := fa5 h2
      obtain ⟨u0, u1, u2, u3, u4, e3⟩ := ints5 h3
      subst e2; subst e3
      refine' tail_5 w x y hy0 hy1 g1 mean mg mb dp un gd cn cs L a ccd cl outer base g' L' _ _ _ nP nS nO p0 p1 p2 p3 p4 s0 s1 s2 s3 s4 u0 u1 u2 u3 u4 t2 _ _ _ _ _ news _ _ _ B' X' T' hk hd hu ⟨b9, b8, aP⟩ ⟨b5, b6, b7, aS⟩ ⟨b1, b2, b3, b4, aO⟩ l1 ?d1 ?d2 h2 h3 (fr_view fE ?v1 ?v2 ?v3 ?v4) nE2 hq
      case d1 => assumption
      case d2 => assumption
      case v1 => rfl
      case v2 => rfl
      case v3 => rfl
      case v4 => rfl
end
section
local macro_rules | `(tactic| walk_at "call ref") => `(tactic| (k_here; (with_reducible show wpAny _ _ (call (Value.ref 107) [Value.int _ _, Value.int _ _]) _ _ _); k_dflt (refine' Ctr.use ?k1 ?k2 ?k3 ?k4 ?k5 (told_ctr _ _ _ _ _ ?b1 ?b2 ?b3 ?b4) ?kK ?kd ?ku ?_; (case k1 => k_asm); (case k2 => k_asm); (case k3 => k_asm); (case k4 => k_asm); (case k5 => k_asm); (case kK => first | exact rfl | assumption); (case kd => ktr_room); (case ku => ktr_units); (case b1 => exact fmod_lo _ (by decide)); (case b2 => exact fmod_hi _ (by decide)); (case b3 => exact fmod_lo _ (by decide)); (case b4 => exact fmod_hi _ (by decide)); k_whole); intro r9 tl9 h9 tk9 F9 N9 l9 o9; k_dflt (obtain ⟨e9, e8⟩ := o9); subst e9; subst e8; clear l9; (try simp only [List.nil_append] at N9); (try dsimp only); (try k_fold)))
set_option maxRecDepth 100000 in
set_option maxHeartbeats 8000000 in
theorem law_walk : PySem.Challenge.rw_pg0105_01.Holds := hd (by
  k_with_none
  k_with "subscriptTail List cons Slice ref ref" => (k_dflt (refine kba_turn (value' := PySem.Expr.Name (PySem.Str.ofString "_") ⟨0, 0, 0, 0⟩) (fun _ => rfl) ?_); k_here; k_dflt (refine' kmk_slice_ints ?zzF ?zzN ?zzl ?zzp ?zzq ?zzi ?zzm ?zzc ?_ ?zzs ?zzt ?zzz; (case zzF => k_asm); (case zzN => k_asm); (case zzl => kmk_list); (case zzp => kmk_part); (case zzq => kmk_part); (case zzi => l_ints); (case zzm => exact kmk_from (by l_ints) (by kmk_sign)); (case zzc => kmk_len); (case zzs => with_unfolding_all rfl); (case zzt => kmk_pure); (case zzz => kmk_size)); intro D' ws' h' F' N' l1 hI' hC' hL'; (try simp only [Int.reduceNeg, Int.neg_neg, Int.reduceToNat] at hI' hC' hL'); (try k_lt l1); (try k_sweep))
  k_go)
end
end Mine
set_option maxRecDepth 100000 in
set_option maxHeartbeats 8000000 in
theorem PySem.Challenge.cw_pg0105_01_holds : PySem.Challenge.rw_pg0105_01.Holds := by
  exact Mine.law_walk
