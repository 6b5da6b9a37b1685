import PyProof.Rows.All
import Wide.All
import OpenK.AllK
import Wide.FinOn
import PySem.Challenge.RW_pe0109_01
set_option Elab.async false
set_option rowWalk.seconds 0
/-! Head -/
section
open PySem PySem.W PyProof.Rows
set_option maxRecDepth 100000
set_option maxHeartbeats 0
namespace Mine
open_top hd for PySem.Challenge.rw_pe0109_01
end Mine
end
namespace Mine
theorem walk_off_Head : True := by
  w_top off
  k_with_none
  trivial
end Mine
/-! Base1 -/
section
open PySem PySem.W PyProof.Rows
set_option maxRecDepth 100000
set_option maxHeartbeats 0
namespace Mine
noncomputable abbrev LOOSE : List Str := looseW hd.view_39 [Str.ofString "ONE_THIRD", Str.ofString "ONE_SIXTH", Str.ofString "TWO_THIRD"]
abbrev Spec (w : World) (f : Addr) (vs : List Value) (n : Nat) (news : List (Addr × Obj)) (Out : Value → List (Addr × Obj) → Prop) : Prop :=
  ∀ (mean : ExcName → Option Value) (mg mb : Str → Option Value) (dp un : Nat) (gd : Option (List Code)) (cn : Str) (cs : Scope) (a : Addr) (ccd : Value) (cl : List (Str × Addr)) (outer : List Env) (A₀ : Around) (base h₀ : Heap) (L : Addr) (m : Str → Option Value) (s : Shared) (Q E : Value → Shared → Prop),
    Below A₀ base outer h₀ → Fr h₀ L s.heap m → Frag.In (hd.heap_39 w.params) h₀ → News h₀ L s.heap news → Top hd.view_39 LOOSE mean mg mb h₀ → cs.kind = .function → dp + n < recursionLimit → un + 8 * n < cLine →
    (∀ r tl h' tk', Fr h₀ L h' m → News h₀ L h' (tl ++ news) → (∀ q ∈ tl, ∀ p ∈ news, p.1 ≠ q.1) → Out r tl → Q r { s with heap := h', toks := tk' }) →
    wpAny (model Challenge.rw_pe0109_01.row.prog w) (ktrTop dp un gd cn cs L a ccd cl outer) (call (.ref f) vs) Q E s
end Mine
end
/-! Max3 -/
section
open PySem PySem.W PyProof.Rows PySem.Flt
set_option maxRecDepth 100000
namespace Mine
def maxF (x y : UInt64) : UInt64 := if (Float64.cmp x y == some .lt) = true then y else x
def minF (x y : UInt64) : UInt64 := if (Float64.cmp y x == some .lt) = true then y else x
section
variable {prog : Program} {w : World} {A : Around} {E : Value → Shared → Prop} {s : Shared}
theorem args_max3 (a b c : Value) : argsOk "max" ⟨[a, b, c], []⟩ := by unfold argsOk; kernel_rfl
theorem args_min3 (a b c : Value) : argsOk "min" ⟨[a, b, c], []⟩ := by unfold argsOk; kernel_rfl

theorem call_max_three {a b c : Value} {Q : Value → Shared → Prop}
    (h : wpAny (model prog w) A.in1 (pyIter (.ref s.heap.objs.size)) (fun it s₂ => ∃ I fp wr n P St bt, it = .ref I ∧ Walks prog w A.in1 I fp wr n P St ∧ St 0 s₂.heap ∧ (∀ b ∈ fp, b < s₂.heap.objs.size) ∧ 0 < n ∧ CmpOf prog w A.in1 .Gt P bt ∧
      ∀ v h' tk, P (argBest bt (n - 1)) v → (∀ b o, b ∉ wr → s₂.heap.get? b = some o → h'.get? b = some o) → Q v { s₂ with heap := h', toks := tk }) E
      { s with heap := s.heap.push { cls := .type "tuple", data := .seq #[a, b, c] } }) :
    wpAny (model prog w) A (call (.builtin "max") [a, b, c]) Q E s := by
  have hname : (toString "max" ++ toString ".loop" : String) = "max.loop" := by decide
  refine call_function_tree F.kind_max F.plain_max F.entry_max (args_max3 _ _ _) ?_
  show wpAny _ A.in1 (Builtin.Builtins.bindParams "max" ["key", "default"] 0 ⟨[], []⟩ >>= _) _ _ s
  refine wpAny_bind (wpAny_of_eq (show Builtin.Builtins.bindParams "max" ["key", "default"] 0 ⟨[], []⟩ = pure [none, none] from rfl) ?_)
  show wpAny _ A.in1 (newTuple [a, b, c] >>= _) _ _ s
  refine wpAny_bind (wpAny_newObj_type ?_)
  refine wpAny_bind (wpAny_mono h (fun it s₂ h₂ => ?_) fun _ _ e => e)
  obtain ⟨I, fp, wr, n, P, St, bt, rfl, W, hst, hfp, hn, hcmp, hQ⟩ := h₂
  refine wpAny_bind (wpAny_newObj_type ?_)
  have hSf : s₂.heap.objs.size ∉ fp := fun hm => Nat.lt_irrefl _ (hfp _ hm)
  rw [hname]
  refine wpAny_pure ⟨plainId_quiet F.plain_max_loop _, codeAny_max_loop_first W bt hcmp s₂.heap.objs.size hSf hn (W.frame _ _ _ hst fun b _ o e => Heap.get?_push_of_some _ e) (Heap.get?_push_size _ rfl) fun v h' tk hP hk => ?_⟩
  exact hQ v h' tk hP fun b o hbw e => hk b o hbw (Nat.ne_of_lt (Heap.lt_size e)) (Heap.get?_push_of_some _ e)

theorem call_min_three {a b c : Value} {Q : Value → Shared → Prop}
    (h : wpAny (model prog w) A.in1 (pyIter (.ref s.heap.objs.size)) (fun it s₂ => ∃ I fp wr n P St bt, it = .ref I ∧ Walks prog w A.in1 I fp wr n P St ∧ St 0 s₂.heap ∧ (∀ b ∈ fp, b < s₂.heap.objs.size) ∧ 0 < n ∧ CmpOf prog w A.in1 .Lt P bt ∧
      ∀ v h' tk, P (argBest bt (n - 1)) v → (∀ b o, b ∉ wr → s₂.heap.get? b = some o → h'.get? b = some o) → Q v { s₂ with heap := h', toks := tk }) E
      { s with heap := s.heap.push { cls := .type "tuple", data := .seq #[a, b, c] } }) :
    wpAny (model prog w) A (call (.builtin "min") [a, b, c]) Q E s := by
  have hname : (toString "min" ++ toString ".loop" : String) = "min.loop" := by decide
  refine call_function_tree F.kind_min F.plain_min F.entry_min (args_min3 _ _ _) ?_
  show wpAny _ A.in1 (Builtin.Builtins.bindParams "min" ["key", "default"] 0 ⟨[], []⟩ >>= _) _ _ s
  refine wpAny_bind (wpAny_of_eq (show Builtin.Builtins.bindParams "min" ["key", "default"] 0 ⟨[], []⟩ = pure [none, none] from rfl) ?_)
  show wpAny _ A.in1 (newTuple [a, b, c] >>= _) _ _ s
  refine wpAny_bind (wpAny_newObj_type ?_)
  refine wpAny_bind (wpAny_mono h (fun it s₂ h₂ => ?_) fun _ _ e => e)
  obtain ⟨I, fp, wr, n, P, St, bt, rfl, W, hst, hfp, hn, hcmp, hQ⟩ := h₂
  refine wpAny_bind (wpAny_newObj_type ?_)
  have hSf : s₂.heap.objs.size ∉ fp := fun hm => Nat.lt_irrefl _ (hfp _ hm)
  rw [hname]
  refine wpAny_pure ⟨plainId_quiet F.plain_min_loop _, codeAny_min_loop_first W bt hcmp s₂.heap.objs.size hSf hn (W.frame _ _ _ hst fun b _ o e => Heap.get?_push_of_some _ e) (Heap.get?_push_size _ rfl) fun v h' tk hP hk => ?_⟩
  exact hQ v h' tk hP fun b o hbw e => hk b o hbw (Nat.ne_of_lt (Heap.lt_size e)) (Heap.get?_push_of_some _ e)

theorem three_lt {s : Shared} {a b c : Value} {d : Addr} (hc : d ∈ [(s.heap.push { cls := .type "tuple", data := .seq #[a, b, c] }).objs.size, s.heap.objs.size]) (o : Obj) :
    d < ((s.heap.push { cls := .type "tuple", data := .seq #[a, b, c] }).push o).objs.size := by
  rw [Heap.size_push, Heap.size_push] at *
  rcases List.mem_cons.mp hc with rfl | hc
  · exact Nat.lt_succ_self _
  · rcases List.mem_cons.mp hc with rfl | hc
    · exact Nat.lt_succ_of_lt (Nat.lt_succ_self _)
    · cases hc

theorem max_three_fff {x y z : UInt64} {t u v : Tok} {h₀ : Heap} {L : Addr} {m : Str → Option Value} {news : List (Addr × Obj)} {Q : Value → Shared → Prop}
    (hh : A.handled = none) (F : Fr h₀ L s.heap m) (N : News h₀ L s.heap news)
    (h : ∀ h' tk v, Fr h₀ L h' m → News h₀ L h' news → Q (.float (maxF (maxF x y) z) v) { s with heap := h', toks := tk }) :
    wpAny (model prog w) A (call (.builtin "max") [.float x t, .float y u, .float z v]) Q E s := by
  have hT : (s.heap.push { cls := .type "tuple", data := .seq #[Value.float x t, .float y u, .float z v] }).IsTuple s.heap.objs.size #[Value.float x t, .float y u, .float z v] := ⟨_, Heap.get?_push_size _ rfl, rfl, 0, rfl⟩
  refine call_max_three (wpAny_pyIter_tuple hT ?_)
  have hsz : (s.heap.push { cls := .type "tuple", data := .seq #[Value.float x t, .float y u, .float z v] }).objs.size = s.heap.objs.size + 1 := Heap.size_push ..
  refine ⟨_, [_, s.heap.objs.size], [_], _, _, _, _, rfl, Walks.tuple (A := A.in1) hh _ s.heap.objs.size (by rw [hsz]; exact Nat.ne_of_lt (Nat.lt_succ_self _)) #[Value.float x t, .float y u, .float z v],
    ⟨⟨_, Heap.get?_push_size _ rfl, rfl, rfl⟩, hT.push _⟩, fun c hc => three_lt hc _, by simp, cmpOf_gt #[Value.float x t, .float y u, .float z v] (by intro v hv; simp at hv; rcases hv with rfl | rfl | rfl <;> exact .float _ _), fun v' h' tk hP hk => ?_⟩
  have hold : ∀ c o, s.heap.get? c = some o → h'.get? c = some o := fun c o e => by
    refine hk c o (fun hm => ?_) (Heap.get?_push_of_some _ (Heap.get?_push_of_some _ e))
    rcases List.mem_cons.mp hm with e1 | hm
    · have := Heap.lt_size e; rw [e1, hsz] at this; exact Nat.lt_irrefl _ (Nat.lt_of_succ_lt this)
    · cases hm
  have hv : ∃ t', v' = .float (maxF (maxF x y) z) t' := by
    unfold maxF
    cases h1 : Float64.cmp x y == some .lt
    · cases h2 : Float64.cmp x z == some .lt
      · simp [argBest, ltV, h1, h2] at hP; exact ⟨t, by simp [← hP, h2]⟩
      · simp [argBest, ltV, h1, h2] at hP; exact ⟨v, by simp [← hP, h2]⟩
    · cases h2 : Float64.cmp y z == some .lt
      · simp [argBest, ltV, h1, h2] at hP; exact ⟨u, by simp [← hP, h2]⟩
      · simp [argBest, ltV, h1, h2] at hP; exact ⟨v, by simp [← hP, h2]⟩
  obtain ⟨t', rfl⟩ := hv
  exact h h' tk t' (F.grownK hold) (N.grown hold)

theorem min_three_fff {x y z : UInt64} {t u v : Tok} {h₀ : Heap} {L : Addr} {m : Str → Option Value} {news : List (Addr × Obj)} {Q : Value → Shared → Prop}
    (hh : A.handled = none) (F : Fr h₀ L s.heap m) (N : News h₀ L s.heap news)
    (h : ∀ h' tk v, Fr h₀ L h' m → News h₀ L h' news → Q (.float (minF (minF x y) z) v) { s with heap := h', toks := tk }) :
    wpAny (model prog w) A (call (.builtin "min") [.float x t, .float y u, .float z v]) Q E s := by
  have hT : (s.heap.push { cls := .type "tuple", data := .seq #[Value.float x t, .float y u, .float z v] }).IsTuple s.heap.objs.size #[Value.float x t, .float y u, .float z v] := ⟨_, Heap.get?_push_size _ rfl, rfl, 0, rfl⟩
  refine call_min_three (wpAny_pyIter_tuple hT ?_)
  have hsz : (s.heap.push { cls := .type "tuple", data := .seq #[Value.float x t, .float y u, .float z v] }).objs.size = s.heap.objs.size + 1 := Heap.size_push ..
  refine ⟨_, [_, s.heap.objs.size], [_], _, _, _, _, rfl, Walks.tuple (A := A.in1) hh _ s.heap.objs.size (by rw [hsz]; exact Nat.ne_of_lt (Nat.lt_succ_self _)) #[Value.float x t, .float y u, .float z v],
    ⟨⟨_, Heap.get?_push_size _ rfl, rfl, rfl⟩, hT.push _⟩, fun c hc => three_lt hc _, by simp, cmpOf_lt #[Value.float x t, .float y u, .float z v] (by intro v hv; simp at hv; rcases hv with rfl | rfl | rfl <;> exact .float _ _), fun v' h' tk hP hk => ?_⟩
  have hold : ∀ c o, s.heap.get? c = some o → h'.get? c = some o := fun c o e => by
    refine hk c o (fun hm => ?_) (Heap.get?_push_of_some _ (Heap.get?_push_of_some _ e))
    rcases List.mem_cons.mp hm with e1 | hm
    · have := Heap.lt_size e; rw [e1, hsz] at this; exact Nat.lt_irrefl _ (Nat.lt_of_succ_lt this)
    · cases hm
  have hv : ∃ t', v' = .float (minF (minF x y) z) t' := by
    unfold minF
    cases h1 : Float64.cmp y x == some .lt
    · cases h2 : Float64.cmp z x == some .lt
      · simp [argBest, ltV, h1, h2] at hP; exact ⟨t, by simp [← hP, h2]⟩
      · simp [argBest, ltV, h1, h2] at hP; exact ⟨v, by simp [← hP, h2]⟩
    · cases h2 : Float64.cmp z y == some .lt
      · simp [argBest, ltV, h1, h2] at hP; exact ⟨u, by simp [← hP, h2]⟩
      · simp [argBest, ltV, h1, h2] at hP; exact ⟨v, by simp [← hP, h2]⟩
  obtain ⟨t', rfl⟩ := hv
  exact h h' tk t' (F.grownK hold) (N.grown hold)
end
end Mine
end
/-! FSpec -/
section
open PySem PySem.W PyProof.Rows
set_option maxRecDepth 100000
set_option maxHeartbeats 0
namespace Mine
/-! the float functions, as the program reckons them -/
def vF (m1 m2 hue : UInt64) : UInt64 :=
  if (Float64.cmp (Float64.divmod hue 4607182418800017408).snd 4595172819793696085 == some .lt) = true then
    Float64.add m1 (Float64.mul (Float64.mul (Float64.sub m2 m1) (Float64.divmod hue 4607182418800017408).snd) 4618441417868443648)
  else if (Float64.cmp (Float64.divmod hue 4607182418800017408).snd 4602678819172646912 == some .lt) = true then m2
  else if (Float64.cmp (Float64.divmod hue 4607182418800017408).snd 4604180019048437077 == some .lt) = true then
    Float64.add m1 (Float64.mul (Float64.mul (Float64.sub m2 m1) (Float64.sub 4604180019048437077 (Float64.divmod hue 4607182418800017408).snd)) 4618441417868443648)
  else m1
section
variable {m1 m2 hue : UInt64}
theorem vF_1 (h1 : (Float64.cmp (Float64.divmod hue 4607182418800017408).snd 4595172819793696085 == some .lt) = true) :
    vF m1 m2 hue = Float64.add m1 (Float64.mul (Float64.mul (Float64.sub m2 m1) (Float64.divmod hue 4607182418800017408).snd) 4618441417868443648) := by
  unfold vF; rw [if_pos h1]
theorem vF_2 (h1 : (Float64.cmp (Float64.divmod hue 4607182418800017408).snd 4595172819793696085 == some .lt) = false)
    (h2 : (Float64.cmp (Float64.divmod hue 4607182418800017408).snd 4602678819172646912 == some .lt) = true) : vF m1 m2 hue = m2 := by
  unfold vF; rw [if_neg (by simp [h1]), if_pos h2]
theorem vF_3 (h1 : (Float64.cmp (Float64.divmod hue 4607182418800017408).snd 4595172819793696085 == some .lt) = false)
    (h2 : (Float64.cmp (Float64.divmod hue 4607182418800017408).snd 4602678819172646912 == some .lt) = false)
    (h3 : (Float64.cmp (Float64.divmod hue 4607182418800017408).snd 4604180019048437077 == some .lt) = true) :
    vF m1 m2 hue = Float64.add m1 (Float64.mul (Float64.mul (Float64.sub m2 m1) (Float64.sub 4604180019048437077 (Float64.divmod hue 4607182418800017408).snd)) 4618441417868443648) := by
  unfold vF; rw [if_neg (by simp [h1]), if_neg (by simp [h2]), if_pos h3]
theorem vF_4 (h1 : (Float64.cmp (Float64.divmod hue 4607182418800017408).snd 4595172819793696085 == some .lt) = false)
    (h2 : (Float64.cmp (Float64.divmod hue 4607182418800017408).snd 4602678819172646912 == some .lt) = false)
    (h3 : (Float64.cmp (Float64.divmod hue 4607182418800017408).snd 4604180019048437077 == some .lt) = false) : vF m1 m2 hue = m1 := by
  unfold vF; rw [if_neg (by simp [h1]), if_neg (by simp [h2]), if_neg (by simp [h3])]
end

abbrev T3 := UInt64 × UInt64 × UInt64

def m2F (l s : UInt64) : UInt64 :=
  if (Float64.cmp l 4602678819172646912 == some .lt || Float64.cmp l 4602678819172646912 == some .eq) = true then Float64.mul l (Float64.add 4607182418800017408 s)
  else Float64.sub (Float64.add l s) (Float64.mul l s)
def hlsToF (h l s : UInt64) : T3 :=
  if (Float64.cmp s 0 == some .eq) = true then (l, l, l)
  else (vF (Float64.sub (Float64.mul 4611686018427387904 l) (m2F l s)) (m2F l s) (Float64.add h 4599676419421066581),
        vF (Float64.sub (Float64.mul 4611686018427387904 l) (m2F l s)) (m2F l s) h,
        vF (Float64.sub (Float64.mul 4611686018427387904 l) (m2F l s)) (m2F l s) (Float64.sub h 4599676419421066581))
section
variable {h l s : UInt64}
theorem hlsToF_1 (h1 : (Float64.cmp s 0 == some .eq) = true) : hlsToF h l s = (l, l, l) := by unfold hlsToF; rw [if_pos h1]
theorem hlsToF_2 (h1 : (Float64.cmp s 0 == some .eq) = false) (h2 : (Float64.cmp l 4602678819172646912 == some .lt || Float64.cmp l 4602678819172646912 == some .eq) = true) :
    hlsToF h l s = (vF (Float64.sub (Float64.mul 4611686018427387904 l) (Float64.mul l (Float64.add 4607182418800017408 s))) (Float64.mul l (Float64.add 4607182418800017408 s)) (Float64.add h 4599676419421066581),
        vF (Float64.sub (Float64.mul 4611686018427387904 l) (Float64.mul l (Float64.add 4607182418800017408 s))) (Float64.mul l (Float64.add 4607182418800017408 s)) h,
        vF (Float64.sub (Float64.mul 4611686018427387904 l) (Float64.mul l (Float64.add 4607182418800017408 s))) (Float64.mul l (Float64.add 4607182418800017408 s)) (Float64.sub h 4599676419421066581)) := by
  unfold hlsToF m2F; rw [if_neg (by simp [h1]), if_pos h2]
theorem hlsToF_3 (h1 : (Float64.cmp s 0 == some .eq) = false) (h2 : (Float64.cmp l 4602678819172646912 == some .lt || Float64.cmp l 4602678819172646912 == some .eq) = false) :
    hlsToF h l s = (vF (Float64.sub (Float64.mul 4611686018427387904 l) (Float64.sub (Float64.add l s) (Float64.mul l s))) (Float64.sub (Float64.add l s) (Float64.mul l s)) (Float64.add h 4599676419421066581),
        vF (Float64.sub (Float64.mul 4611686018427387904 l) (Float64.sub (Float64.add l s) (Float64.mul l s))) (Float64.sub (Float64.add l s) (Float64.mul l s)) h,
        vF (Float64.sub (Float64.mul 4611686018427387904 l) (Float64.sub (Float64.add l s) (Float64.mul l s))) (Float64.sub (Float64.add l s) (Float64.mul l s)) (Float64.sub h 4599676419421066581)) := by
  unfold hlsToF m2F; rw [if_neg (by simp [h1]), if_neg (by rw [h2]; decide)]
end

def mx (x y z : UInt64) : UInt64 := maxF (maxF x y) z
def mn (x y z : UInt64) : UInt64 := minF (minF x y) z
/-- the hue: the program's part that both roads share -/
def hueF (x y z : UInt64) : UInt64 :=
  (Float64.divmod (Float64.div
    (if (Float64.cmp x (maxF (maxF x y) z) == some .eq) = true then
      Float64.sub (Float64.div (Float64.sub (maxF (maxF x y) z) z) (Float64.sub (maxF (maxF x y) z) (minF (minF x y) z))) (Float64.div (Float64.sub (maxF (maxF x y) z) y) (Float64.sub (maxF (maxF x y) z) (minF (minF x y) z)))
     else if (Float64.cmp y (maxF (maxF x y) z) == some .eq) = true then
      Float64.sub (Float64.add 4611686018427387904 (Float64.div (Float64.sub (maxF (maxF x y) z) x) (Float64.sub (maxF (maxF x y) z) (minF (minF x y) z)))) (Float64.div (Float64.sub (maxF (maxF x y) z) z) (Float64.sub (maxF (maxF x y) z) (minF (minF x y) z)))
     else
      Float64.sub (Float64.add 4616189618054758400 (Float64.div (Float64.sub (maxF (maxF x y) z) y) (Float64.sub (maxF (maxF x y) z) (minF (minF x y) z)))) (Float64.div (Float64.sub (maxF (maxF x y) z) x) (Float64.sub (maxF (maxF x y) z) (minF (minF x y) z))))
    4618441417868443648) 4607182418800017408).snd
section
variable {x y z : UInt64}
theorem hueF_1 (h1 : (Float64.cmp x (maxF (maxF x y) z) == some .eq) = true) : hueF x y z =
    (Float64.divmod (Float64.div (Float64.sub (Float64.div (Float64.sub (maxF (maxF x y) z) z) (Float64.sub (maxF (maxF x y) z) (minF (minF x y) z))) (Float64.div (Float64.sub (maxF (maxF x y) z) y) (Float64.sub (maxF (maxF x y) z) (minF (minF x y) z)))) 4618441417868443648) 4607182418800017408).snd := by
  unfold hueF; rw [if_pos h1]
theorem hueF_2 (h1 : (Float64.cmp x (maxF (maxF x y) z) == some .eq) = false) (h2 : (Float64.cmp y (maxF (maxF x y) z) == some .eq) = true) : hueF x y z =
    (Float64.divmod (Float64.div (Float64.sub (Float64.add 4611686018427387904 (Float64.div (Float64.sub (maxF (maxF x y) z) x) (Float64.sub (maxF (maxF x y) z) (minF (minF x y) z)))) (Float64.div (Float64.sub (maxF (maxF x y) z) z) (Float64.sub (maxF (maxF x y) z) (minF (minF x y) z)))) 4618441417868443648) 4607182418800017408).snd := by
  unfold hueF; rw [if_neg (by simp [h1]), if_pos h2]
theorem hueF_3 (h1 : (Float64.cmp x (maxF (maxF x y) z) == some .eq) = false) (h2 : (Float64.cmp y (maxF (maxF x y) z) == some .eq) = false) : hueF x y z =
    (Float64.divmod (Float64.div (Float64.sub (Float64.add 4616189618054758400 (Float64.div (Float64.sub (maxF (maxF x y) z) y) (Float64.sub (maxF (maxF x y) z) (minF (minF x y) z)))) (Float64.div (Float64.sub (maxF (maxF x y) z) x) (Float64.sub (maxF (maxF x y) z) (minF (minF x y) z)))) 4618441417868443648) 4607182418800017408).snd := by
  unfold hueF; rw [if_neg (by simp [h1]), if_neg (by simp [h2])]
end
def toHlsF (x y z : UInt64) : T3 :=
  if (Float64.cmp (minF (minF x y) z) (maxF (maxF x y) z) == some .eq) = true then (0, Float64.div (Float64.add (maxF (maxF x y) z) (minF (minF x y) z)) 4611686018427387904, 0)
  else (hueF x y z, Float64.div (Float64.add (maxF (maxF x y) z) (minF (minF x y) z)) 4611686018427387904,
    if (Float64.cmp (Float64.div (Float64.add (maxF (maxF x y) z) (minF (minF x y) z)) 4611686018427387904) 4602678819172646912 == some .lt || Float64.cmp (Float64.div (Float64.add (maxF (maxF x y) z) (minF (minF x y) z)) 4611686018427387904) 4602678819172646912 == some .eq) = true
    then Float64.div (Float64.sub (maxF (maxF x y) z) (minF (minF x y) z)) (Float64.add (maxF (maxF x y) z) (minF (minF x y) z))
    else Float64.div (Float64.sub (maxF (maxF x y) z) (minF (minF x y) z)) (Float64.sub (Float64.sub 4611686018427387904 (maxF (maxF x y) z)) (minF (minF x y) z)))
section
variable {x y z H S : UInt64}
theorem toHlsF_1 (h1 : (Float64.cmp (minF (minF x y) z) (maxF (maxF x y) z) == some .eq) = true) : toHlsF x y z = (0, Float64.div (Float64.add (maxF (maxF x y) z) (minF (minF x y) z)) 4611686018427387904, 0) := by
  unfold toHlsF; rw [if_pos h1]
theorem toHlsF_2 (h1 : (Float64.cmp (minF (minF x y) z) (maxF (maxF x y) z) == some .eq) = false) (hH : hueF x y z = H)
    (h2 : (Float64.cmp (Float64.div (Float64.add (maxF (maxF x y) z) (minF (minF x y) z)) 4611686018427387904) 4602678819172646912 == some .lt || Float64.cmp (Float64.div (Float64.add (maxF (maxF x y) z) (minF (minF x y) z)) 4611686018427387904) 4602678819172646912 == some .eq) = true) :
    toHlsF x y z = (H, Float64.div (Float64.add (maxF (maxF x y) z) (minF (minF x y) z)) 4611686018427387904, Float64.div (Float64.sub (maxF (maxF x y) z) (minF (minF x y) z)) (Float64.add (maxF (maxF x y) z) (minF (minF x y) z))) := by
  unfold toHlsF; rw [if_neg (by simp [h1]), if_pos h2, hH]
theorem toHlsF_3 (h1 : (Float64.cmp (minF (minF x y) z) (maxF (maxF x y) z) == some .eq) = false) (hH : hueF x y z = H)
    (h2 : (Float64.cmp (Float64.div (Float64.add (maxF (maxF x y) z) (minF (minF x y) z)) 4611686018427387904) 4602678819172646912 == some .lt || Float64.cmp (Float64.div (Float64.add (maxF (maxF x y) z) (minF (minF x y) z)) 4611686018427387904) 4602678819172646912 == some .eq) = false) :
    toHlsF x y z = (H, Float64.div (Float64.add (maxF (maxF x y) z) (minF (minF x y) z)) 4611686018427387904, Float64.div (Float64.sub (maxF (maxF x y) z) (minF (minF x y) z)) (Float64.sub (Float64.sub 4611686018427387904 (maxF (maxF x y) z)) (minF (minF x y) z))) := by
  unfold toHlsF; rw [if_neg (by simp [h1]), if_neg (by rw [h2]; decide), hH]
end
def toHsvF (x y z : UInt64) : T3 :=
  if (Float64.cmp (minF (minF x y) z) (maxF (maxF x y) z) == some .eq) = true then (0, 0, maxF (maxF x y) z)
  else (hueF x y z, Float64.div (Float64.sub (maxF (maxF x y) z) (minF (minF x y) z)) (maxF (maxF x y) z), maxF (maxF x y) z)
section
variable {x y z H : UInt64}
theorem toHsvF_1 (h1 : (Float64.cmp (minF (minF x y) z) (maxF (maxF x y) z) == some .eq) = true) : toHsvF x y z = (0, 0, maxF (maxF x y) z) := by
  unfold toHsvF; rw [if_pos h1]
theorem toHsvF_2 (h1 : (Float64.cmp (minF (minF x y) z) (maxF (maxF x y) z) == some .eq) = false) (hH : hueF x y z = H) :
    toHsvF x y z = (H, Float64.div (Float64.sub (maxF (maxF x y) z) (minF (minF x y) z)) (maxF (maxF x y) z), maxF (maxF x y) z) := by
  unfold toHsvF; rw [if_neg (by simp [h1]), hH]
end
def iF (h : UInt64) : Int := Flt.toInt Float64.truncOf (Float64.mul h 4618441417868443648)
def fF (h : UInt64) : UInt64 := Float64.sub (Float64.mul h 4618441417868443648) (Float64.ofInt (Flt.toInt Float64.truncOf (Float64.mul h 4618441417868443648)))
def pF (s v : UInt64) : UInt64 := Float64.mul v (Float64.sub 4607182418800017408 s)
def qF (h s v : UInt64) : UInt64 := Float64.mul v (Float64.sub 4607182418800017408 (Float64.mul s (fF h)))
def tF (h s v : UInt64) : UInt64 := Float64.mul v (Float64.sub 4607182418800017408 (Float64.mul s (Float64.sub 4607182418800017408 (fF h))))
def hsvToF (h s v : UInt64) : T3 :=
  if (Float64.cmp s 0 == some .eq) = true then (v, v, v)
  else if (iF h).fmod 6 = 0 then (v, tF h s v, pF s v)
  else if (iF h).fmod 6 = 1 then (qF h s v, v, pF s v)
  else if (iF h).fmod 6 = 2 then (pF s v, v, tF h s v)
  else if (iF h).fmod 6 = 3 then (pF s v, qF h s v, v)
  else if (iF h).fmod 6 = 4 then (tF h s v, pF s v, v)
  else (v, pF s v, qF h s v)
section
variable {h s v : UInt64}
theorem hsvToF_z (h1 : (Float64.cmp s 0 == some .eq) = true) : hsvToF h s v = (v, v, v) := by unfold hsvToF; rw [if_pos h1]
theorem hsvToF_k (h1 : (Float64.cmp s 0 == some .eq) = false) (k : Int) (hk : (iF h).fmod 6 = k) : hsvToF h s v =
    if k = 0 then (v, tF h s v, pF s v) else if k = 1 then (qF h s v, v, pF s v) else if k = 2 then (pF s v, v, tF h s v) else if k = 3 then (pF s v, qF h s v, v) else if k = 4 then (tF h s v, pF s v, v) else (v, pF s v, qF h s v) := by
  unfold hsvToF; rw [if_neg (by simp [h1]), hk]
theorem hsvToF_0 (h1 : (Float64.cmp s 0 == some .eq) = false) (hk : (iF h).fmod 6 = 0) : hsvToF h s v = (v, tF h s v, pF s v) := hsvToF_k h1 _ hk
theorem hsvToF_1 (h1 : (Float64.cmp s 0 == some .eq) = false) (hk : (iF h).fmod 6 = 1) : hsvToF h s v = (qF h s v, v, pF s v) := hsvToF_k h1 _ hk
theorem hsvToF_2 (h1 : (Float64.cmp s 0 == some .eq) = false) (hk : (iF h).fmod 6 = 2) : hsvToF h s v = (pF s v, v, tF h s v) := hsvToF_k h1 _ hk
theorem hsvToF_3 (h1 : (Float64.cmp s 0 == some .eq) = false) (hk : (iF h).fmod 6 = 3) : hsvToF h s v = (pF s v, qF h s v, v) := hsvToF_k h1 _ hk
theorem hsvToF_4 (h1 : (Float64.cmp s 0 == some .eq) = false) (hk : (iF h).fmod 6 = 4) : hsvToF h s v = (tF h s v, pF s v, v) := hsvToF_k h1 _ hk
theorem hsvToF_5 (h1 : (Float64.cmp s 0 == some .eq) = false) (hk : (iF h).fmod 6 = 5) : hsvToF h s v = (v, pF s v, qF h s v) := hsvToF_k h1 _ hk
end
/-! how a call of the text's defs is told -/
abbrev Out3 (f : T3) (r : Value) (tl : List (Addr × Obj)) : Prop :=
  ∃ D t1 t2 t3, r = .ref D ∧ tl = [(D, ({ cls := .type "tuple", data := .seq #[.float f.1 t1, .float f.2.1 t2, .float f.2.2 t3] } : Obj))]
section
variable {h₀ h' : Heap} {L D : Addr} {m : Str → Option Value} {s : Shared} {news : List (Addr × Obj)} {Q : Value → Shared → Prop} {tk : Nat} {f : T3} {X Y Z : UInt64} {t1 t2 t3 : Tok}
theorem end3 (hret : ∀ r tl h' tk', Fr h₀ L h' m → News h₀ L h' (tl ++ news) → (∀ q ∈ tl, ∀ p ∈ news, p.1 ≠ q.1) → Out3 f r tl → Q r { s with heap := h', toks := tk' })
    (e : f = (X, Y, Z)) (F : Fr h₀ L h' m) (N : News h₀ L h' ((D, ({ cls := .type "tuple", data := .seq #[.float X t1, .float Y t2, .float Z t3] } : Obj)) :: news)) (hl : ∀ p ∈ news, p.1 < D) :
    Q (.ref D) { s with heap := h', toks := tk } := by
  subst e
  exact hret _ [(D, _)] h' tk F N (fun q hq p hp => by rw [List.mem_singleton.mp hq]; exact Nat.ne_of_lt (hl p hp)) ⟨D, t1, t2, t3, rfl, rfl⟩
theorem end1 {x y : UInt64} {t : Tok} (hret : ∀ r tl h' tk', Fr h₀ L h' m → News h₀ L h' (tl ++ news) → (∀ q ∈ tl, ∀ p ∈ news, p.1 ≠ q.1) → (tl = [] ∧ ∃ t, r = .float x t) → Q r { s with heap := h', toks := tk' })
    (e : x = y) (F : Fr h₀ L h' m) (N : News h₀ L h' news) : Q (.float y t) { s with heap := h', toks := tk } := by
  subst e
  exact hret _ [] h' tk F N (fun q hq => nomatch hq) ⟨rfl, t, rfl⟩
theorem shut {b : Bool} {C : Prop} (h : b = false) (h' : b = true) : C := by rw [h] at h'; cases h'
end
theorem spec_use {w : World} {f : Addr} {vs : List Value} {n : Nat} {news : List (Addr × Obj)} {Out : Value → List (Addr × Obj) → Prop} (C : Spec w f vs n news Out)
    {mean : ExcName → Option Value} {mg mb : Str → Option Value} {dp un : Nat} {gd : Option (List Code)} {cn : Str} {cs : Scope} {a : Addr} {ccd : Value} {cl : List (Str × Addr)} {outer : List Env} {A₀ : Around} {base h₀ : Heap} {L : Addr} {m : Str → Option Value} {s : Shared} {Q E : Value → Shared → Prop}
    (B : Below A₀ base outer h₀) (F : Fr h₀ L s.heap m) (X : Frag.In (hd.heap_39 w.params) h₀) (N : News h₀ L s.heap news) (T : Top hd.view_39 LOOSE mean mg mb h₀) (hk : cs.kind = .function) (hdp : dp + n < recursionLimit) (hun : un + 8 * n < cLine)
    (ret : ∀ r tl h' tk', Fr h₀ L h' m → News h₀ L h' (tl ++ news) → (∀ q ∈ tl, ∀ p ∈ news, p.1 ≠ q.1) → Out r tl → Q r { s with heap := h', toks := tk' }) :
    wpAny (model Challenge.rw_pe0109_01.row.prog w) (ktrTop dp un gd cn cs L a ccd cl outer) (call (.ref f) vs) Q E s :=
  C mean mg mb dp un gd cn cs a ccd cl outer A₀ base h₀ L m s Q E B F X N T hk hdp hun ret
/-! the walks -/
theorem v_spec (w : World) (x y z : UInt64) (t1 t2 t3 : Tok) (news : List (Addr × Obj)) :
    Spec w 35 [.float x t1, .float y t2, .float z t3] 1 news (fun r tl => tl = [] ∧ ∃ t, r = .float (vF x y z) t) := by
  unfold Spec
  k_fill
  intro mean mg mb dp un gd cn cs a ccd cl outer A₀ base h₀ L m s Q E B F X N T hk hdp hun hret
  refine wpAny_call ?_
  k_dflt ktr_enter
  k_steps
  · exact end1 hret (vF_1 (by assumption)) (by assumption) (by assumption)
  · exact end1 hret (vF_2 (by assumption) (by assumption)) (by assumption) (by assumption)
  · exact end1 hret (vF_3 (by assumption) (by assumption) (by assumption)) (by assumption) (by assumption)
  · exact end1 hret (vF_4 (by assumption) (by assumption) (by assumption)) (by assumption) (by assumption)
local macro_rules | `(tactic| walk_at $s:str) => `(tactic| k_extra $s)
theorem walk_on_FSpec : True := by
  k_with_none
  k_with "call ref" => (k_here; (with_reducible show wpAny _ _ (call (Value.ref 35) _) _ _ _); k_dflt (refine' spec_use (v_spec _ _ _ _ _ _ _ _) ?zhk1 ?zhk2 ?zhk3 ?zhk4 ?zhk5 ?zhkK ?zhkDp ?zhkUn ?_); (case zhk1 => k_asm); (case zhk2 => k_asm); (case zhk3 => k_asm); (case zhk4 => k_asm); (case zhk5 => k_asm); (case zhkK => first | (exact rfl) | assumption); (case zhkDp => ktr_room); (case zhkUn => ktr_units); intro zr9 ztl9 zh9 ztk9 zF9 zN9 zhl9 zho9; (obtain ⟨ze9, zt9, ze8⟩ := zho9); subst ze9; subst ze8; simp only [List.nil_append] at zN9; clear zhl9; (try dsimp only); (try k_fold))
  trivial
theorem hlsTo_spec (w : World) (x y z : UInt64) (t1 t2 t3 : Tok) (news : List (Addr × Obj)) :
    Spec w 28 [.float x t1, .float y t2, .float z t3] 2 news (Out3 (hlsToF x y z)) := by
  unfold Spec
  k_fill
  intro mean mg mb dp un gd cn cs a ccd cl outer A₀ base h₀ L m s Q E B F X N T hk hdp hun hret
  refine wpAny_call ?_
  k_dflt ktr_enter
  k_steps
  · exact end3 hret (hlsToF_1 (by assumption)) (by assumption) (by assumption) (by assumption)
  · exact end3 hret (hlsToF_2 (by assumption) (by assumption)) (by assumption) (by assumption) (by assumption)
  · exact end3 hret (hlsToF_3 (by assumption) (by assumption)) (by assumption) (by assumption) (by assumption)
end Mine
end
namespace Mine
theorem walk_off_FSpec : True := by
  w_top off
  k_with_none
  trivial
end Mine
/-! FSpec2 -/
section
open PySem PySem.W PyProof.Rows
set_option maxRecDepth 100000
set_option maxHeartbeats 0
namespace Mine
local macro_rules | `(tactic| walk_at $s:str) => `(tactic| k_extra $s)
theorem walk_on_FSpec2 : True := by
  k_with_none
  k_with "call builtin:max" => ((with_reducible show wpAny _ _ (call _ [Value.float _ _, Value.float _ _, Value.float _ _]) _ _ _); (rename News _ _ _ _ => zN'); (rename Fr _ _ _ _ => zF'); refine max_three_fff rfl zF' zN' ?_; clear zN'; intro _ _ _ _ _)
  k_with "call builtin:min" => ((with_reducible show wpAny _ _ (call _ [Value.float _ _, Value.float _ _, Value.float _ _]) _ _ _); (rename News _ _ _ _ => zN'); (rename Fr _ _ _ _ => zF'); refine min_three_fff rfl zF' zN' ?_; clear zN'; intro _ _ _ _ _)
  trivial
abbrev HlsOk (x y z : UInt64) : Prop := (Float64.cmp (minF (minF x y) z) (maxF (maxF x y) z) == some .eq) = false →
  Float64.isZero (Float64.add (maxF (maxF x y) z) (minF (minF x y) z)) = false ∧ Float64.isZero (Float64.sub (Float64.sub 4611686018427387904 (maxF (maxF x y) z)) (minF (minF x y) z)) = false ∧
  Float64.isZero (Float64.sub (maxF (maxF x y) z) (minF (minF x y) z)) = false
abbrev HsvOk (x y z : UInt64) : Prop := (Float64.cmp (minF (minF x y) z) (maxF (maxF x y) z) == some .eq) = false →
  Float64.isZero (maxF (maxF x y) z) = false ∧ Float64.isZero (Float64.sub (maxF (maxF x y) z) (minF (minF x y) z)) = false
abbrev BackOk (h s : UInt64) : Prop := (Float64.cmp s 0 == some .eq) = false →
  Float64.isNaN (Float64.mul h 4618441417868443648) = false ∧ Float64.isInf (Float64.mul h 4618441417868443648) = false ∧ (Flt.toInt Float64.truncOf (Float64.mul h 4618441417868443648)).natAbs < 2 ^ 1024 - 2 ^ 970
theorem toHls_spec (w : World) (x y z : UInt64) (t1 t2 t3 : Tok) (news : List (Addr × Obj)) (hz : HlsOk x y z) :
    Spec w 21 [.float x t1, .float y t2, .float z t3] 1 news (Out3 (toHlsF x y z)) := by
  unfold Spec
  k_fill
  intro mean mg mb dp un gd cn cs a ccd cl outer A₀ base h₀ L m s Q E B F X N T hk hdp hun hret
  refine wpAny_call ?_
  k_dflt ktr_enter
  k_steps
  all_goals first
    | exact shut (hz (by assumption)).1 (by assumption)
    | exact shut (hz (by assumption)).2.1 (by assumption)
    | exact shut (hz (by assumption)).2.2 (by assumption)
    | exact end3 hret (toHlsF_1 (by assumption)) (by assumption) (by assumption) (by assumption)
    | exact end3 hret (toHlsF_2 (by assumption) (hueF_1 (by assumption)) (by assumption)) (by assumption) (by assumption) (by assumption)
    | exact end3 hret (toHlsF_2 (by assumption) (hueF_2 (by assumption) (by assumption)) (by assumption)) (by assumption) (by assumption) (by assumption)
    | exact end3 hret (toHlsF_2 (by assumption) (hueF_3 (by assumption) (by assumption)) (by assumption)) (by assumption) (by assumption) (by assumption)
    | exact end3 hret (toHlsF_3 (by assumption) (hueF_1 (by assumption)) (by assumption)) (by assumption) (by assumption) (by assumption)
    | exact end3 hret (toHlsF_3 (by assumption) (hueF_2 (by assumption) (by assumption)) (by assumption)) (by assumption) (by assumption) (by assumption)
    | exact end3 hret (toHlsF_3 (by assumption) (hueF_3 (by assumption) (by assumption)) (by assumption)) (by assumption) (by assumption) (by assumption)
theorem toHsv_spec (w : World) (x y z : UInt64) (t1 t2 t3 : Tok) (news : List (Addr × Obj)) (hz : HsvOk x y z) :
    Spec w 42 [.float x t1, .float y t2, .float z t3] 1 news (Out3 (toHsvF x y z)) := by
  unfold Spec
  k_fill
  intro mean mg mb dp un gd cn cs a ccd cl outer A₀ base h₀ L m s Q E B F X N T hk hdp hun hret
  refine wpAny_call ?_
  k_dflt ktr_enter
  k_steps
  all_goals first
    | exact shut (hz (by assumption)).1 (by assumption)
    | exact shut (hz (by assumption)).2 (by assumption)
    | exact end3 hret (toHsvF_1 (by assumption)) (by assumption) (by assumption) (by assumption)
    | exact end3 hret (toHsvF_2 (by assumption) (hueF_1 (by assumption))) (by assumption) (by assumption) (by assumption)
    | exact end3 hret (toHsvF_2 (by assumption) (hueF_2 (by assumption) (by assumption))) (by assumption) (by assumption) (by assumption)
    | exact end3 hret (toHsvF_2 (by assumption) (hueF_3 (by assumption) (by assumption))) (by assumption) (by assumption) (by assumption)
theorem fmod6 {i : Int} {C : Prop} (h0 : i.fmod 6 ≠ 0) (h1 : i.fmod 6 ≠ 1) (h2 : i.fmod 6 ≠ 2) (h3 : i.fmod 6 ≠ 3) (h4 : i.fmod 6 ≠ 4) (h5 : i.fmod 6 ≠ 5) : C := by
  exfalso
  have a := Int.fmod_nonneg_of_pos i (show (0 : Int) < 6 by decide)
  have b := Int.fmod_lt_of_pos i (show (0 : Int) < 6 by decide)
  omega
theorem hsvTo_spec (w : World) (x y z : UInt64) (t1 t2 t3 : Tok) (news : List (Addr × Obj)) (hz : BackOk x y) :
    Spec w 49 [.float x t1, .float y t2, .float z t3] 1 news (Out3 (hsvToF x y z)) := by
  unfold Spec
  k_fill
  intro mean mg mb dp un gd cn cs a ccd cl outer A₀ base h₀ L m s Q E B F X N T hk hdp hun hret
  refine wpAny_call ?_
  k_dflt ktr_enter
  k_steps
  all_goals first
    | exact shut (hz (by assumption)).1 (by assumption)
    | exact shut (hz (by assumption)).2.1 (by assumption)
    | exact absurd (hz (by assumption)).2.2 (Nat.not_lt.mpr (by assumption))
    | exact end3 hret (hsvToF_z (by assumption)) (by assumption) (by assumption) (by assumption)
    | exact end3 hret (hsvToF_0 (by assumption) (by assumption)) (by assumption) (by assumption) (by assumption)
    | exact end3 hret (hsvToF_1 (by assumption) (by assumption)) (by assumption) (by assumption) (by assumption)
    | exact end3 hret (hsvToF_2 (by assumption) (by assumption)) (by assumption) (by assumption) (by assumption)
    | exact end3 hret (hsvToF_3 (by assumption) (by assumption)) (by assumption) (by assumption) (by assumption)
    | exact end3 hret (hsvToF_4 (by assumption) (by assumption)) (by assumption) (by assumption) (by assumption)
    | exact end3 hret (hsvToF_5 (by assumption) (by assumption)) (by assumption) (by assumption) (by assumption)
    | exact fmod6 (by assumption) (by assumption) (by assumption) (by assumption) (by assumption) (by assumption)
end Mine
end
namespace Mine
theorem walk_off_FSpec2 : True := by
  w_top off
  k_with_none
  trivial
end Mine
/-! Turn0 -/
section
open PySem PySem.W PyProof.Rows
set_option maxRecDepth 100000
set_option maxHeartbeats 0
namespace Mine
def kF (a : Int) : UInt64 := Float64.ofFrac false a.natAbs 256
def thF (t : Int) : UInt64 := Float64.ofFrac false t.natAbs 3
section
variable {prog : Program} {w : World} {A : Around} {E : Value → Shared → Prop} {s : Shared} {t u : Tok} {Q : Value → Shared → Prop}
theorem div256 {a : Int} (hA : A.handled = none) (h1 : 0 ≤ a) (h2 : a ≤ 256) (h : Q (.float (kF a) s.toks) { s with toks := s.toks + 1 }) : wpAny (model prog w) A (binaryOp .Div (.int a t) (.int 256 u)) Q E s := by
  have e : Float64.ofFrac (decide (a < 0) != decide ((256 : Int) < 0)) a.natAbs (256 : Int).natAbs = kF a := by
    unfold kF
    rw [decide_eq_false (show ¬ a < 0 by omega)]
    rfl
  refine Flt.div_ii_fits hA ?_ (fun h0 => by cases h0) (fun _ _ => by rw [e]; exact h)
  have : a.natAbs ≤ 256 := by omega
  exact Nat.lt_of_le_of_lt this (Nat.lt_of_lt_of_le (show 256 < 2 ^ 10 by decide) (Nat.pow_le_pow_right (show 0 < 2 by decide) (show 10 ≤ 1023 by decide)))
theorem div3 {a : Int} (hA : A.handled = none) (h1 : 0 ≤ a) (h2 : a ≤ 3) (h : Q (.float (thF a) s.toks) { s with toks := s.toks + 1 }) : wpAny (model prog w) A (binaryOp .Div (.int a t) (.int 3 u)) Q E s := by
  have e : Float64.ofFrac (decide (a < 0) != decide ((3 : Int) < 0)) a.natAbs (3 : Int).natAbs = thF a := by
    unfold thF
    rw [decide_eq_false (show ¬ a < 0 by omega)]
    rfl
  refine Flt.div_ii_fits hA ?_ (fun h0 => by cases h0) (fun _ _ => by rw [e]; exact h)
  have : a.natAbs ≤ 3 := by omega
  exact Nat.lt_of_le_of_lt this (Nat.lt_of_lt_of_le (show 3 < 2 ^ 10 by decide) (Nat.pow_le_pow_right (show 0 < 2 by decide) (show 10 ≤ 1023 by decide)))
end
end Mine
end
/-! LcTup -/
section
open PySem PySem.W PyProof.Rows
set_option maxRecDepth 100000
namespace Mine
open LCg
/-- a tuple of the ledger, as a comprehension's source -/
def TupAt (ax : Addr) (its : Array Value) (news : List (Addr × Obj)) : Prop := False ∨ ∃ o, (ax, o) ∈ news ∧ o.cls = .type "tuple" ∧ ∃ n, o.data = .seq its n
def CompSrcT (prog : Program) (w : World) (A : Around) (h₀ : Heap) (L : Addr) (m : Str → Option Value) (env : Env) (elt : PySem.Expr) (x : Str) (scope : Scope) (cl : List (Str × Addr)) (Fin : Shared → List Value → List (Addr × Obj) → Prop) (xv : Value) (s₁ : Shared) : Prop :=
  ∃ ax its news, xv = .ref ax ∧ A.handled = none ∧ Fr h₀ L s₁.heap m ∧ News h₀ L s₁.heap news ∧ TupAt ax its news ∧ its.size ≤ sizeLine ∧
    ∀ s₂ : Shared, (∃ h, s₂ = { s₁ with heap := h }) → CompRest prog w A h₀ L m env elt x scope cl s₂ (TupAt ax its) (fun i v => its[i]? = some v) (Fin s₂) its.size 0 [] news
section
variable {prog : Program} {w : World} {A : Around} {E : Value → Shared → Prop} {s : Shared} {h₀ : Heap} {L : Addr} {m : Str → Option Value} {env : Env}
theorem tupAt_is {ax : Addr} {its : Array Value} {news : List (Addr × Obj)} {h : Heap} (x : TupAt ax its news) (N : News h₀ L h news) : h.IsTuple ax its := by
  rcases x with x | ⟨o, hm, hc, n, hd⟩
  · exact x.elim
  · exact ⟨o, (N _ hm).1, hc, n, hd⟩
theorem compSrcT_ledger {elt : PySem.Expr} {x : Str} {scope : Scope} {cl : List (Str × Addr)} {Fin : Shared → List Value → List (Addr × Obj) → Prop} {ax : Addr} {its : Array Value} {k : Nat} {news : List (Addr × Obj)} {s₁ : Shared}
    (hh : A.handled = none) (F : Fr h₀ L s₁.heap m) (N : News h₀ L s₁.heap news) (hm : (ax, ({ cls := .type "tuple", data := .seq its k } : Obj)) ∈ news) (hsz : its.size ≤ sizeLine)
    (h : ∀ g, CompRest prog w A h₀ L m env elt x scope cl { s₁ with heap := g } (TupAt ax its) (fun i v => its[i]? = some v) (Fin { s₁ with heap := g }) its.size 0 [] news) :
    CompSrcT prog w A h₀ L m env elt x scope cl Fin (.ref ax) s₁ := ⟨ax, its, news, rfl, hh, F, N, .inr ⟨_, hm, rfl, _, rfl⟩, hsz, fun _ ⟨g, e⟩ => e ▸ h g⟩
theorem tup_st {ax I : Addr} {its : Array Value} : ∀ i (h h' : Heap) (o : Obj) (nw : List (Addr × Obj)), (h.IsTupleIter I ax i ∧ h.IsTuple ax its) → h.get? I = some o → h'.get? I = some o → (∀ b o, h₀.get? b = some o → h'.get? b = some o) → News h₀ L h' nw → TupAt ax its nw → (h'.IsTupleIter I ax i ∧ h'.IsTuple ax its) :=
  fun i h h' o nw st e e' k N S => ⟨by obtain ⟨o', q, r⟩ := st.1; rw [e] at q; cases q; exact ⟨o, e', r⟩, tupAt_is S N⟩
theorem ListComp_UT {elt iter : PySem.Expr} {x : Str} {px : Pos} {scope : Scope} {cl : List (Str × Addr)} {pos : Pos} {Q : Value → Shared → Prop} (F₀ : Fr h₀ L s.heap m)
    (hclos : closureFor scope env = pure cl) (hcell : ∀ y ∈ scope.names, y.2 ≠ .cell) (hkind : scope.kind = .function)
    (hnames : ∀ y ∈ scope.names, y.2 = .local → scope.names.lookup y.1 = some .local) (hx : scope.names.lookup x = some .local)
    (h : wpAny (model prog w) A (eval iter env) (CompSrcT prog w A h₀ L m env elt x scope cl (fun s₂ => FinE h₀ L m s₂ Q)) E s)
    (hs : ∀ x, foldedSetIterable iter env x = pure x := by intro _; rfl) :
    wpAny (model prog w) A (eval (.ListComp elt [⟨.Name x px, iter, [], 0⟩] scope pos) env) Q E s := by
  rw [eval_ListComp]
  refine wpAny_comprehension_free (use := none) rfl hs hclos hkind hnames (wpAny_mono h (fun xv s₁ h₁ => ?_) fun _ _ e => e)
  obtain ⟨ax, its, news, rfl, hh, F, N, S, hsz, R⟩ := h₁
  have hl := tupAt_is S N
  have hlt : ax < s₁.heap.objs.size := by obtain ⟨_, e, _⟩ := hl; exact Heap.lt_size e
  refine wpAny_pyIter_tuple hl ?_
  have up : ∀ b o, s₁.heap.get? b = some o → (s₁.heap.push { cls := .type "tuple_iterator", data := .fields #[.ref ax, .int 0 0] }).get? b = some o := fun b o e => Heap.get?_push_of_some _ e
  refine block_U (Walks.tuple hh s₁.heap.objs.size ax (Nat.ne_of_lt hlt) its) hsz (fun i h st => by obtain ⟨o, e, _⟩ := st.1; exact ⟨o, e⟩) tup_st hcell hkind hx ⟨⟨_, Heap.get?_push_size _ rfl, rfl, rfl⟩, hl.push _⟩ (fun b hb => ?_)
    (F.keeps up) (N.grown up) (Nat.ne_of_lt F.ns.lt) (next_is_new F) (fun p hp => Nat.ne_of_lt (Heap.lt_size (N p hp).1)) S (R _ ⟨_, rfl⟩) ?_
  · show b < (s₁.heap.push _).objs.size
    rw [Heap.size_push]
    rcases List.mem_cons.mp hb with rfl | hb
    · exact Nat.lt_succ_self _
    · rw [List.mem_singleton.mp hb]; exact Nat.lt_succ_of_lt hlt
  · intro D C h tk m' ys news' F' N' o1 hn hC₀ hD₀ hCL hDL hCD offC fin
    refine ⟨m', hn, fun h'' hs'' => fin D h'' tk (F'.change hs'' hCL hC₀) (fun p hp => ?_) o1⟩
    refine ⟨hs''.extBut _ _ ?_ (N' p hp).1, (N' p hp).2⟩
    rcases List.mem_cons.mp hp with rfl | hp
    · exact Ne.symm hCD
    · exact offC p hp
theorem compEnd_same {I C D : Addr} {s₁ : Shared} {oI oC oD : Obj} {S : List (Addr × Obj) → Prop} {rest : Value → List (Addr × Obj) → Prop} {y : Value} {h' : Heap} {tk : Nat} {news' : List (Addr × Obj)}
    (F : Fr h₀ L h' m) (N : News h₀ L h' ((I, oI) :: (C, oC) :: (D, oD) :: news')) (off : Off3 I C D news') (hS : S news') (r : rest y news') :
    CompEnd h₀ L m s₁ I oI C oC D oD S rest y { s₁ with heap := h', toks := tk } := CompEnd.intro F N news' (fun _ hp => hp) off hS r
theorem off1_ne {D : Addr} {news : List (Addr × Obj)} (h : Off1 D news) : ∀ p ∈ news, p.1 ≠ D := by
  induction news with
  | nil => intro p hp; cases hp
  | cons q r ih =>
    intro p hp
    obtain ⟨a, b⟩ := h
    rcases List.mem_cons.mp hp with e | hp
    · rw [e]; exact a
    · exact ih b p hp
end
end Mine
end
/-! Turn1 -/
section
open PySem PySem.W PyProof.Rows
set_option maxRecDepth 100000
set_option maxHeartbeats 0
namespace Mine
structure RoundOk (x : UInt64) : Prop where
  nan : Float64.isNaN (Float64.mul (Float64.ofInt 256) x) = false
  inf : Float64.isInf (Float64.mul (Float64.ofInt 256) x) = false
def roundP (x : UInt64) : Int := Flt.toInt Float64.nearestOf (Float64.mul (Float64.ofInt 256) x)
def turnA (a b c t : Int) : T3 := hsvToF (Float64.add (toHsvF (kF a) (kF b) (kF c)).1 (thF t)) (toHsvF (kF a) (kF b) (kF c)).2.1 (toHsvF (kF a) (kF b) (kF c)).2.2
def turnB (a b c t : Int) : T3 := hlsToF (Float64.sub (toHlsF (kF a) (kF b) (kF c)).1 (thF (3 - t))) (toHlsF (kF a) (kF b) (kF c)).2.1 (toHlsF (kF a) (kF b) (kF c)).2.2
abbrev OutL (X Y Z : Int) (r : Value) (tl : List (Addr × Obj)) : Prop := ∃ D t1 t2 t3, r = .ref D ∧ tl = [(D, listOf #[.int X t1, .int Y t2, .int Z t3] 3)]
section
variable {h₀ h' : Heap} {L D : Addr} {m : Str → Option Value} {s : Shared} {news all : List (Addr × Obj)} {Q : Value → Shared → Prop} {tk : Nat} {X Y Z : Int} {t1 t2 t3 : Tok}
theorem endL (hret : ∀ r tl h' tk', Fr h₀ L h' m → News h₀ L h' (tl ++ news) → (∀ q ∈ tl, ∀ p ∈ news, p.1 ≠ q.1) → OutL X Y Z r tl → Q r { s with heap := h', toks := tk' })
    (F : Fr h₀ L h' m) {p1 p2 p3 : Addr × Obj} (N : News h₀ L h' ((D, LCg.lst [.int X t1, .int Y t2, .int Z t3]) :: p1 :: p2 :: p3 :: news)) (ho : p1.1 ≠ D ∧ p2.1 ≠ D ∧ p3.1 ≠ D ∧ LCg.Off1 D news) :
    Q (.ref D) { s with heap := h', toks := tk } := by
  refine hret _ [(D, _)] h' tk F (fun p hp => ?_) (fun q hq p hp => by rw [List.mem_singleton.mp hq]; exact off1_ne ho.2.2.2 p hp) ⟨D, t1, t2, t3, rfl, rfl⟩
  rcases List.mem_cons.mp hp with e | hp
  · rw [e]; exact N _ (.head _)
  · exact N _ (.tail _ (.tail _ (.tail _ (.tail _ hp))))
end
local macro_rules | `(tactic| k_room) => `(tactic| ktr_room)
local macro_rules | `(tactic| k_units) => `(tactic| ktr_units)
local macro_rules | `(tactic| walk_at $s:str) => `(tactic| k_extra $s)
theorem walk_on_Turn1 : True := by
  k_with_none
  k_with "call ref" => (k_here; (with_reducible show wpAny _ _ (call (Value.ref 21) _) _ _ _); k_dflt (refine' spec_use (toHls_spec _ _ _ _ _ _ _ _ ?zhkP0) ?zhk1 ?zhk2 ?zhk3 ?zhk4 ?zhk5 ?zhkK ?zhkDp ?zhkUn ?_); (case zhk1 => k_asm); (case zhk2 => k_asm); (case zhk3 => k_asm); (case zhk4 => k_asm); (case zhk5 => k_asm); (case zhkK => first | (exact rfl) | assumption); (case zhkDp => ktr_room); (case zhkUn => ktr_units); (case zhkP0 => assumption); intro zr9 ztl9 zh9 ztk9 zF9 zN9 zhl9 zho9; (obtain ⟨zD9, zt9, zt8, zt7, ze9, ze8⟩ := zho9); subst ze9; subst ze8; (have zlt9 := zhl9 _ (List.Mem.head _)); simp only [List.cons_append, List.nil_append] at zN9; clear zhl9; (try dsimp only); (try k_fold))
  k_with "call ref" => (k_here; (with_reducible show wpAny _ _ (call (Value.ref 28) _) _ _ _); k_dflt (refine' spec_use (hlsTo_spec _ _ _ _ _ _ _ _ ) ?zhk1 ?zhk2 ?zhk3 ?zhk4 ?zhk5 ?zhkK ?zhkDp ?zhkUn ?_); (case zhk1 => k_asm); (case zhk2 => k_asm); (case zhk3 => k_asm); (case zhk4 => k_asm); (case zhk5 => k_asm); (case zhkK => first | (exact rfl) | assumption); (case zhkDp => ktr_room); (case zhkUn => ktr_units); intro zr9 ztl9 zh9 ztk9 zF9 zN9 zhl9 zho9; (obtain ⟨zD9, zt9, zt8, zt7, ze9, ze8⟩ := zho9); subst ze9; subst ze8; (have zlt9 := zhl9 _ (List.Mem.head _)); simp only [List.cons_append, List.nil_append] at zN9; clear zhl9; (try dsimp only); (try k_fold))
  k_with "call ref" => (k_here; (with_reducible show wpAny _ _ (call (Value.ref 42) _) _ _ _); k_dflt (refine' spec_use (toHsv_spec _ _ _ _ _ _ _ _ ?zhkP0) ?zhk1 ?zhk2 ?zhk3 ?zhk4 ?zhk5 ?zhkK ?zhkDp ?zhkUn ?_); (case zhk1 => k_asm); (case zhk2 => k_asm); (case zhk3 => k_asm); (case zhk4 => k_asm); (case zhk5 => k_asm); (case zhkK => first | (exact rfl) | assumption); (case zhkDp => ktr_room); (case zhkUn => ktr_units); (case zhkP0 => assumption); intro zr9 ztl9 zh9 ztk9 zF9 zN9 zhl9 zho9; (obtain ⟨zD9, zt9, zt8, zt7, ze9, ze8⟩ := zho9); subst ze9; subst ze8; (have zlt9 := zhl9 _ (List.Mem.head _)); simp only [List.cons_append, List.nil_append] at zN9; clear zhl9; (try dsimp only); (try k_fold))
  k_with "call ref" => (k_here; (with_reducible show wpAny _ _ (call (Value.ref 49) _) _ _ _); k_dflt (refine' spec_use (hsvTo_spec _ _ _ _ _ _ _ _ ?zhkP0) ?zhk1 ?zhk2 ?zhk3 ?zhk4 ?zhk5 ?zhkK ?zhkDp ?zhkUn ?_); (case zhk1 => k_asm); (case zhk2 => k_asm); (case zhk3 => k_asm); (case zhk4 => k_asm); (case zhk5 => k_asm); (case zhkK => first | (exact rfl) | assumption); (case zhkDp => ktr_room); (case zhkUn => ktr_units); (case zhkP0 => assumption); intro zr9 ztl9 zh9 ztk9 zF9 zN9 zhl9 zho9; (obtain ⟨zD9, zt9, zt8, zt7, ze9, ze8⟩ := zho9); subst ze9; subst ze8; (have zlt9 := zhl9 _ (List.Mem.head _)); simp only [List.cons_append, List.nil_append] at zN9; clear zhl9; (try dsimp only); (try k_fold))
  k_with "binaryOp Div int int" => (k_here; (with_reducible show wpAny _ _ (binaryOp Operator.Div (Value.int _ _) (Value.int 256 _)) _ _ _); (simp only [Int.reduceToNat, List.getD_cons_zero, List.getD_cons_succ, Int.toNat_zero, Int.toNat_one]); refine div256 rfl (by omega) (by omega) ?_; (try dsimp only))
  k_with "binaryOp Div int int" => (k_here; (with_reducible show wpAny _ _ (binaryOp Operator.Div (Value.int _ _) (Value.int 3 _)) _ _ _); refine div3 rfl (by omega) (by omega) ?_; (try dsimp only))
  k_with "eval ListComp" => (k_here; k_dflt (refine ListComp_UT (F₀ := by k_asm) (by rfl) (by decide) (by rfl) (by decide) (by rfl) ?_); walk1; k_dflt (refine compSrcT_ledger (by rfl) (by k_asm) (by k_asm) (by k_mem) (by first | size_fits | exact Nat.le_of_ble_eq_true rfl) ?_; intro zg'; lcg_lit))
  k_with "CompEnd" => (k_here; k_dflt (refine compEnd_same (by k_asm) (by k_asm) (by assumption) (by lcg_src) ?_))
  trivial
theorem turnA_spec (w : World) (l : Addr) (a b c t : Int) (ta tb tc tt : Tok) (nn : Nat) (news : List (Addr × Obj)) (ha : 0 ≤ a) (ha2 : a ≤ 256) (hb : 0 ≤ b) (hb2 : b ≤ 256) (hc : 0 ≤ c) (hc2 : c ≤ 256) (ht : 0 ≤ t) (ht2 : t ≤ 2)
    (p1 : HsvOk (kF a) (kF b) (kF c)) (p2 : BackOk (Float64.add (toHsvF (kF a) (kF b) (kF c)).1 (thF t)) (toHsvF (kF a) (kF b) (kF c)).2.1)
    (p3 : (Float64.cmp (toHsvF (kF a) (kF b) (kF c)).1 0 == some .lt) = false)
    (p4 : (Float64.cmp (toHsvF (kF a) (kF b) (kF c)).1 4607182418800017408 == some .gt || Float64.cmp (toHsvF (kF a) (kF b) (kF c)).1 4607182418800017408 == some .eq) = false)
    (r1 : RoundOk (turnA a b c t).1) (r2 : RoundOk (turnA a b c t).2.1) (r3 : RoundOk (turnA a b c t).2.2) :
    Spec w 143 [.ref l, .int t tt, .bool false] 4 ((l, listOf #[.int a ta, .int b tb, .int c tc] nn) :: news) (OutL (roundP (turnA a b c t).1) (roundP (turnA a b c t).2.1) (roundP (turnA a b c t).2.2)) := by
  unfold Spec
  k_fill
  intro mean mg mb dp un gd cn cs a ccd cl outer A₀ base h₀ L m s Q E B F X N T hk hdp hun hret
  refine wpAny_call ?_
  k_dflt ktr_enter
  k_steps
  all_goals first
    | exact shut p4 (by assumption)
    | exact shut r1.nan (by assumption)
    | exact shut r1.inf (by assumption)
    | exact shut r2.nan (by assumption)
    | exact shut r2.inf (by assumption)
    | exact shut r3.nan (by assumption)
    | exact shut r3.inf (by assumption)
    | exact endL hret (by assumption) (by assumption) (by assumption)
theorem turnB_spec (w : World) (l : Addr) (a b c t : Int) (ta tb tc tt : Tok) (nn : Nat) (news : List (Addr × Obj)) (ha : 0 ≤ a) (ha2 : a ≤ 256) (hb : 0 ≤ b) (hb2 : b ≤ 256) (hc : 0 ≤ c) (hc2 : c ≤ 256) (ht : 0 ≤ t) (ht2 : t ≤ 2)
    (p1 : HlsOk (kF a) (kF b) (kF c))
    (p3 : (Float64.cmp (toHlsF (kF a) (kF b) (kF c)).1 0 == some .lt) = false)
    (p4 : (Float64.cmp (toHlsF (kF a) (kF b) (kF c)).1 4607182418800017408 == some .gt || Float64.cmp (toHlsF (kF a) (kF b) (kF c)).1 4607182418800017408 == some .eq) = false)
    (r1 : RoundOk (turnB a b c t).1) (r2 : RoundOk (turnB a b c t).2.1) (r3 : RoundOk (turnB a b c t).2.2) :
    Spec w 143 [.ref l, .int t tt, .bool true] 4 ((l, listOf #[.int a ta, .int b tb, .int c tc] nn) :: news) (OutL (roundP (turnB a b c t).1) (roundP (turnB a b c t).2.1) (roundP (turnB a b c t).2.2)) := by
  unfold Spec
  k_fill
  intro mean mg mb dp un gd cn cs a ccd cl outer A₀ base h₀ L m s Q E B F X N T hk hdp hun hret
  refine wpAny_call ?_
  k_dflt ktr_enter
  k_steps
  all_goals first
    | exact shut p4 (by assumption)
    | exact shut r1.nan (by assumption)
    | exact shut r1.inf (by assumption)
    | exact shut r2.nan (by assumption)
    | exact shut r2.inf (by assumption)
    | exact shut r3.nan (by assumption)
    | exact shut r3.inf (by assumption)
    | exact endL hret (by assumption) (by assumption) (by assumption)
end Mine
end
namespace Mine
theorem walk_off_Turn1 : True := by
  w_top off
  k_with_none
  trivial
end Mine
/-! Frame -/
section
open PySem PySem.W PyProof.Rows PySem.Calls
set_option maxRecDepth 100000
set_option maxHeartbeats 1000000
namespace Mine
section
variable {prog : Program} {w : World} {A A₀ : Around} {s : Shared} {K : Frag} {L : Addr} {h₀ base : Heap} {m mg mb : Str → Option Value} {news : List (Addr × Obj)} {p : Program} {loose : List Str} {mean : ExcName → Option Value}
/-- a call that hides a part of the ledger alone: all else stays -/
theorem code_defF {env : Env} {outer : List Env} {R : Result → Shared → Prop} {name qual : Str} {params : Arguments} {body : List Stmt} {scope : Scope} {dV kV doc pm cdv ct oc : Value} {an od : Option Addr} {osl : Array (Option Value)} {f : Addr} {args : Args} {binds : List (Str × Value)}
    (B : Below A₀ base outer h₀) (F : Fr h₀ L s.heap m) (X₀ : K.In h₀) (N : News h₀ L s.heap news) (T : Top p loose mean mg mb h₀) (hA : A.frames = some (env :: outer)) (hf : env.frame = some L) (hke : env.scope.kind = .function)
    (ho : K.lookup f = some ⟨oc, od, .func (fnOf name qual params body scope dV kV doc pm an cdv ct), osl⟩) (hcd : codeIn K cdv qual = true) (hroom : A.depth < recursionLimit)
    (hbind : BindsTo s (fnOf name qual params body scope dV kV doc pm an cdv ct) args binds) (hloc : ∀ y ∈ binds, scope.names.lookup y.1 = some .local)
    (h : ∀ g L' h₁, Fr h₀ L g m → Fr g L' h₁ (fun y => binds.reverse.lookup y) → News g L' h₁ news → Below A base (env :: outer) g → K.In g → Top p loose mean mg mb g →
      (∀ b o, s.heap.get? b = some o → b ∉ news.map (·.1) → g.get? b = some o) →
      wpAny (model prog w) (A.deeper (envOf qual scope L' f cdv)) (execs body (envOf qual scope L' f cdv))
        (fun fl s' => LeaveK h₀ L m g R (match fl with | .ret v => v | _ => .none) s')
        (fun e s' => wpAny (model prog w) (A.deeper (envOf qual scope L' f cdv)) (leaving (envOf qual scope L' f cdv) e) (fun _ s'' => R (.error e) s'') (fun e' s'' => R (.error e') s'') s')
        { s with heap := h₁, toks := s.toks + binds.length })
    (hco : scope.isCoroutine = false) (hgen : scope.isGenerator = false) (hk : scope.kind = .function)
    (hcell : ∀ x ∈ scope.names, x.2 ≠ .cell) : codeAny (model prog w) A (.call (.ref f) args) R s := by
  obtain ⟨FG, BG, st, lv⟩ := groundX (R := R) B F N hA hf hke
  refine codeAny_call_def (fd := fnOf name qual params body scope dV kV doc pm an cdv ct) (body := body) (binds := binds) hroom ((X₀.keeps F.keep) _ _ ho) rfl (T.nolimit.keeps F.keep) (codeRec_of (X₀.keeps F.keep) hcd) rfl hbind hcell hloc (fun h₁ hns hk₁ => ?_) hco hgen hk
  exact wpAny_mono (h _ s.heap.objs.size h₁ FG ⟨hns, fun b o e => hk₁ b o (of_hideAll _ e), Nat.le_of_eq (hideAll_size _ _)⟩
    (fun p hp => ⟨hk₁ _ _ (N p hp).1, Nat.ne_of_lt (Heap.lt_size (N p hp).1), hideAll_none _ (List.mem_map_of_mem hp)⟩) BG (X₀.keeps st) (T.keeps st) fun b o e nb => hideAll_get _ e nb) (fun fl s' hl => lv _ _ hl) fun _ _ y => y
end
/-- a contract upon a written ledger; all else of the heap stays -/
abbrev SpecF (w : World) (f : Addr) (vs : List Value) (n : Nat) (sub : List (Addr × Obj)) (Out : Value → List (Addr × Obj) → Prop) : Prop :=
  ∀ (mean : ExcName → Option Value) (mg mb : Str → Option Value) (dp un : Nat) (gd : Option (List Code)) (cn : Str) (cs : Scope) (a : Addr) (ccd : Value) (cl : List (Str × Addr)) (outer : List Env) (A₀ : Around) (base h₀ : Heap) (L : Addr) (m : Str → Option Value) (s : Shared) (Q E : Value → Shared → Prop),
    Below A₀ base outer h₀ → Fr h₀ L s.heap m → Frag.In (hd.heap_39 w.params) h₀ → News h₀ L s.heap sub → Top hd.view_39 LOOSE mean mg mb h₀ → cs.kind = .function → dp + n < recursionLimit → un + 8 * n < cLine →
    (∀ r tl h' tk', Fr h₀ L h' m → News h₀ L h' (tl ++ sub) → (∀ b o, s.heap.get? b = some o → b ∉ sub.map (·.1) → h'.get? b = some o) → (∀ q ∈ tl, s.heap.get? q.1 = none) → Out r tl → Q r { s with heap := h', toks := tk' }) →
    wpAny (model Challenge.rw_pe0109_01.row.prog w) (ktrTop dp un gd cn cs L a ccd cl outer) (call (.ref f) vs) Q E s
theorem specF_to {w : World} {f : Addr} {vs : List Value} {n : Nat} {sub news : List (Addr × Obj)} {Out : Value → List (Addr × Obj) → Prop} (C : SpecF w f vs n sub Out) (hsub : ∀ p ∈ sub, p ∈ news) : Spec w f vs n news Out := by
  intro mean mg mb dp un gd cn cs a ccd cl outer A₀ base h₀ L m s Q E B F X N T hk hdp hun hret
  refine C mean mg mb dp un gd cn cs a ccd cl outer A₀ base h₀ L m s Q E B F X (fun p hp => N p (hsub p hp)) T hk hdp hun ?_
  intro r tl h' tk' F' N' keep new o
  refine hret r tl h' tk' F' (fun p hp => ?_) (fun q hq p hp e => ?_) o
  · rcases List.mem_append.mp hp with hp | hp
    · exact N' p (List.mem_append_left _ hp)
    · refine ⟨?_, (N p hp).2⟩
      by_cases hm : p.1 ∈ sub.map (·.1)
      · obtain ⟨q, hq, e⟩ := List.mem_map.mp hm
        have h1 := (N q (hsub q hq)).1
        have h2 := (N p hp).1
        rw [e] at h1
        have h3 := (N' q (List.mem_append_right _ hq)).1
        rw [e] at h3
        rw [h3, ← h1, h2]
      · exact keep _ _ (N p hp).1 hm
  · have h1 := (N p hp).1
    rw [e, new q hq] at h1
    cases h1
end Mine
end
/-! Ops1 -/
section
open PySem PySem.W PyProof.Rows
set_option maxRecDepth 100000
set_option maxHeartbeats 0
namespace Mine
local macro_rules | `(tactic| k_room) => `(tactic| ktr_room)
local macro_rules | `(tactic| k_units) => `(tactic| ktr_units)
abbrev OutI (i : Int) (r : Value) (tl : List (Addr × Obj)) : Prop := tl = [] ∧ ∃ t, r = .int i t
section
variable {h₀ h' : Heap} {L : Addr} {m : Str → Option Value} {s : Shared} {news : List (Addr × Obj)} {Q : Value → Shared → Prop} {tk : Nat}
theorem endI {x : Int} {t : Tok} (hret : ∀ r tl h' tk', Fr h₀ L h' m → News h₀ L h' (tl ++ news) → (∀ q ∈ tl, ∀ p ∈ news, p.1 ≠ q.1) → OutI x r tl → Q r { s with heap := h', toks := tk' })
    (F : Fr h₀ L h' m) (N : News h₀ L h' news) : Q (.int x t) { s with heap := h', toks := tk } :=
  hret _ [] h' tk F N (fun q hq => nomatch hq) ⟨rfl, t, rfl⟩
theorem endB {x y : Bool} (hret : ∀ r tl h' tk', Fr h₀ L h' m → News h₀ L h' (tl ++ news) → (∀ q ∈ tl, ∀ p ∈ news, p.1 ≠ q.1) → (tl = [] ∧ r = .bool x) → Q r { s with heap := h', toks := tk' })
    (e : x = y) (F : Fr h₀ L h' m) (N : News h₀ L h' news) : Q (.bool y) { s with heap := h', toks := tk } := by
  subst e
  exact hret _ [] h' tk F N (fun q hq => nomatch hq) ⟨rfl, rfl⟩
end
/-- a ledger that bears an entry may bear it twice -/
theorem spec_mem {w : World} {f : Addr} {vs : List Value} {n : Nat} {p : Addr × Obj} {news : List (Addr × Obj)} {Out : Value → List (Addr × Obj) → Prop} (C : Spec w f vs n (p :: news) Out) (hm : p ∈ news) : Spec w f vs n news Out := by
  intro mean mg mb dp un gd cn cs a ccd cl outer A₀ base h₀ L m s Q E B F X N T hk hdp hun hret
  refine C mean mg mb dp un gd cn cs a ccd cl outer A₀ base h₀ L m s Q E B F X (fun q hq => ?_) T hk hdp hun ?_
  · rcases List.mem_cons.mp hq with e | hq
    · rw [e]; exact N p hm
    · exact N q hq
  · intro r tl h' tk' F' N' ne o
    refine hret r tl h' tk' F' (fun q hq => N' q ?_) (fun q hq p' hp => ne q hq p' (.tail _ hp)) o
    rcases List.mem_append.mp hq with hq | hq
    · exact List.mem_append_left _ hq
    · exact List.mem_append_right _ (.tail _ hq)
theorem and_spec (w : World) (a b : Int) (ta tb : Tok) (news : List (Addr × Obj)) :
    Spec w 70 [.int a ta, .int b tb] 1 (news) (OutI (Builtin.bitAnd a b)) := by
  unfold Spec
  k_fill
  intro mean mg mb dp un gd cn cs a9 ccd cl outer A₀ base h₀ L m s Q E B F X N T hk hdp hun hret
  refine wpAny_call ?_
  k_dflt ktr_enter
  k_steps
  exact endI hret (by assumption) (by assumption)
theorem lshift_spec (w : World) (b : Int) (ta tb : Tok) (h3 : 0 ≤ b) (h4 : b ≤ 2) (news : List (Addr × Obj)) :
    Spec w 77 [.int 1 ta, .int b tb] 1 (news) (OutI (1 * 2 ^ b.toNat)) := by
  unfold Spec
  k_fill
  intro mean mg mb dp un gd cn cs a9 ccd cl outer A₀ base h₀ L m s Q E B F X N T hk hdp hun hret
  refine wpAny_call ?_
  k_dflt ktr_enter
  k_steps
  exact endI hret (by assumption) (by assumption)
theorem rshift_spec (w : World) (a b : Int) (ta tb : Tok) (h1 : 0 ≤ a) (h2 : a ≤ 7) (h3 : 0 ≤ b) (h4 : b ≤ 2) (news : List (Addr × Obj)) :
    Spec w 98 [.int a ta, .int b tb] 1 (news) (OutI (a.fdiv (2 ^ b.toNat))) := by
  unfold Spec
  k_fill
  intro mean mg mb dp un gd cn cs a9 ccd cl outer A₀ base h₀ L m s Q E B F X N T hk hdp hun hret
  refine wpAny_call ?_
  k_dflt ktr_enter
  k_steps
  exact endI hret (by assumption) (by assumption)
theorem mod_spec (w : World) (a : Int) (ta tb : Tok) (news : List (Addr × Obj)) :
    Spec w 84 [.int a ta, .int 3 tb] 1 (news) (OutI (a.fmod 3)) := by
  unfold Spec
  k_fill
  intro mean mg mb dp un gd cn cs a9 ccd cl outer A₀ base h₀ L m s Q E B F X N T hk hdp hun hret
  refine wpAny_call ?_
  k_dflt ktr_enter
  k_steps
  exact endI hret (by assumption) (by assumption)
theorem sub_spec (w : World) (a b : Int) (ta tb : Tok) (news : List (Addr × Obj)) :
    Spec w 105 [.int a ta, .int b tb] 1 (news) (OutI (a - b)) := by
  unfold Spec
  k_fill
  intro mean mg mb dp un gd cn cs a9 ccd cl outer A₀ base h₀ L m s Q E B F X N T hk hdp hun hret
  refine wpAny_call ?_
  k_dflt ktr_enter
  k_steps
  exact endI hret (by assumption) (by assumption)
theorem xor_spec (w : World) (a b : Int) (ta tb : Tok) (news : List (Addr × Obj)) :
    Spec w 112 [.int a ta, .int b tb] 1 (news) (OutI (Builtin.bitXor a b)) := by
  unfold Spec
  k_fill
  intro mean mg mb dp un gd cn cs a9 ccd cl outer A₀ base h₀ L m s Q E B F X N T hk hdp hun hret
  refine wpAny_call ?_
  k_dflt ktr_enter
  k_steps
  exact endI hret (by assumption) (by assumption)
theorem add_spec (w : World) (a b : Int) (ta tb : Tok) (news : List (Addr × Obj)) :
    Spec w 63 [.int a ta, .int b tb] 1 (news) (OutI (a + b)) := by
  unfold Spec
  k_fill
  intro mean mg mb dp un gd cn cs a9 ccd cl outer A₀ base h₀ L m s Q E B F X N T hk hdp hun hret
  refine wpAny_call ?_
  k_dflt ktr_enter
  k_steps
  exact endI hret (by assumption) (by assumption)
theorem neg_spec (w : World) (a : Int) (ta : Tok) (news : List (Addr × Obj)) :
    Spec w 91 [.int a ta] 1 (news) (OutI (-a)) := by
  unfold Spec
  k_fill
  intro mean mg mb dp un gd cn cs a9 ccd cl outer A₀ base h₀ L m s Q E B F X N T hk hdp hun hret
  refine wpAny_call ?_
  k_dflt ktr_enter
  k_steps
  exact endI hret (by assumption) (by assumption)
theorem getitem_spec0 (w : World) (l : Addr) (b : Int) (tb : Tok) (nn : Nat) (vs : List Value) (ns : List Int) (hi : IntsAre vs ns) (h3 : 0 ≤ b) (h4 : b < (ns.length : Int)) (h5 : ns.length ≤ 8) (news : List (Addr × Obj)) :
    Spec w 119 [.ref l, .int b tb] 1 ((l, listOf vs.toArray nn) :: news) (OutI (ns.getD b.toNat 0)) := by
  unfold Spec
  k_fill
  intro mean mg mb dp un gd cn cs a9 ccd cl outer A₀ base h₀ L m s Q E B F X N T hk hdp hun hret
  refine wpAny_call ?_
  k_dflt ktr_enter
  k_steps
  exact endI hret (by assumption) (by assumption)
theorem getitem_spec (w : World) (l : Addr) (b : Int) (tb : Tok) (nn : Nat) (vs : List Value) (ns : List Int) (news : List (Addr × Obj)) (hm : (l, listOf vs.toArray nn) ∈ news) (hi : IntsAre vs ns) (h3 : 0 ≤ b) (h4 : b < (ns.length : Int)) (h5 : ns.length ≤ 8) :
    Spec w 119 [.ref l, .int b tb] 1 news (OutI (ns.getD b.toNat 0)) := spec_mem (getitem_spec0 w l b tb nn vs ns hi h3 h4 h5 news) hm
theorem truth_spec (w : World) (a : Int) (ta : Tok) (news : List (Addr × Obj)) :
    Spec w 56 [.int a ta] 1 news (fun r tl => tl = [] ∧ r = .bool (decide (a ≠ 0))) := by
  unfold Spec
  k_fill
  intro mean mg mb dp un gd cn cs a9 ccd cl outer A₀ base h₀ L m s Q E B F X N T hk hdp hun hret
  refine wpAny_call ?_
  k_dflt ktr_enter
  k_steps
  · exact endB hret (decide_eq_true (by assumption)) (by assumption) (by assumption)
  · exact endB hret (decide_eq_false (fun h => h (by assumption))) (by assumption) (by assumption)
/-- a call that changes one object, makes none, and gives None -/
abbrev SpecM (w : World) (f : Addr) (vs : List Value) (n : Nat) (l : Addr) (o o' : Obj) : Prop :=
  ∀ (mean : ExcName → Option Value) (mg mb : Str → Option Value) (dp un : Nat) (gd : Option (List Code)) (cn : Str) (cs : Scope) (a : Addr) (ccd : Value) (cl : List (Str × Addr)) (outer : List Env) (A₀ : Around) (base h₀ : Heap) (L : Addr) (m : Str → Option Value) (s : Shared) (Q E : Value → Shared → Prop),
    Below A₀ base outer h₀ → Fr h₀ L s.heap m → Frag.In (hd.heap_39 w.params) h₀ → News h₀ L s.heap [(l, o)] → Top hd.view_39 LOOSE mean mg mb h₀ → cs.kind = .function → dp + n < recursionLimit → un + 8 * n < cLine →
    (∀ h' tk', Fr h₀ L h' m → News h₀ L h' [(l, o')] → (∀ b ob, s.heap.get? b = some ob → b ≠ l → h'.get? b = some ob) → Q .none { s with heap := h', toks := tk' }) →
    wpAny (model Challenge.rw_pe0109_01.row.prog w) (ktrTop dp un gd cn cs L a ccd cl outer) (call (.ref f) vs) Q E s
theorem setitem_spec (w : World) (l : Addr) (b c : Int) (tb tc : Tok) (nn : Nat) (vs : List Value) (ns : List Int) (hi : IntsAre vs ns) (h3 : 0 ≤ b) (h4 : b < (ns.length : Int)) (h5 : ns.length ≤ 8) :
    SpecM w 126 [.ref l, .int b tb, .int c tc] 1 l (listOf vs.toArray nn) (listOf (vs.set b.toNat (.int c tc)).toArray nn) := by
  unfold SpecM
  k_fill
  intro mean mg mb dp un gd cn cs a9 ccd cl outer A₀ base h₀ L m s Q E B F X N T hk hdp hun hret
  refine wpAny_call ?_
  k_dflt (refine' code_defF ?k1 ?k2 ?k3 ?k4 ?k5 ?kA ?kF ?kK ?k6 ?k7 ?k8 ?k9 ?kB ?_ ?c2 ?c3 ?c4 ?c5; (case kA => exact rfl); (case kF => exact rfl); (case kK => assumption); (case k1 => k_asm); (case k2 => k_asm); (case k3 => k_asm); (case k4 => k_asm); (case k5 => k_asm); (case k6 => k_is); (case k7 => k_is); (case k8 => ktr_room); (case k9 => exact BindsTo.of_eq rfl); (case c5 => decide); (case kB => exact locs rfl); (case c2 => exact rfl); (case c3 => exact rfl); (case c4 => exact rfl); k_whole; intro g9 L9 h9 FG9 F9 N9 B9 X9 T9 hgk; (try dsimp only); (try k_fold))
  k_steps
  rename Fr g9 L9 _ _ => F8
  exact hret _ _ (by assumption) (by assumption) fun b ob e ne => F8.keep b ob (hgk b ob e (fun hm => ne (List.mem_singleton.mp hm)))
theorem specM_use {w : World} {f : Addr} {vs : List Value} {n : Nat} {l : Addr} {o o' : Obj} {news : List (Addr × Obj)} (C : SpecM w f vs n l o o')
    {mean : ExcName → Option Value} {mg mb : Str → Option Value} {dp un : Nat} {gd : Option (List Code)} {cn : Str} {cs : Scope} {a : Addr} {ccd : Value} {cl : List (Str × Addr)} {outer : List Env} {A₀ : Around} {base h₀ : Heap} {L : Addr} {m : Str → Option Value} {s : Shared} {Q E : Value → Shared → Prop}
    (B : Below A₀ base outer h₀) (F : Fr h₀ L s.heap m) (X : Frag.In (hd.heap_39 w.params) h₀) (N : News h₀ L s.heap ((l, o) :: news)) (T : Top hd.view_39 LOOSE mean mg mb h₀) (hk : cs.kind = .function) (hdp : dp + n < recursionLimit) (hun : un + 8 * n < cLine)
    (hne : ∀ p ∈ news, p.1 ≠ l) (ret : ∀ h' tk', Fr h₀ L h' m → News h₀ L h' ((l, o') :: news) → Q .none { s with heap := h', toks := tk' }) :
    wpAny (model Challenge.rw_pe0109_01.row.prog w) (ktrTop dp un gd cn cs L a ccd cl outer) (call (.ref f) vs) Q E s := by
  refine C mean mg mb dp un gd cn cs a ccd cl outer A₀ base h₀ L m s Q E B F X (fun p hp => ?_) T hk hdp hun ?_
  · rw [List.mem_singleton.mp hp]; exact N _ (.head _)
  · intro h' tk' F' N' keep
    refine ret h' tk' F' fun p hp => ?_
    rcases List.mem_cons.mp hp with e | hp
    · rw [e]; exact N' _ (.head _)
    · exact ⟨keep _ _ (N p (.tail _ hp)).1 (hne p hp), (N p (.tail _ hp)).2⟩
end Mine
end
namespace Mine
theorem walk_off_Ops1 : True := by
  w_top off
  k_with_none
  trivial
end Mine
/-! Loop1 -/
section
open PySem PySem.W PyProof.Rows
set_option maxRecDepth 100000
set_option maxHeartbeats 1000000
namespace Mine
/-- where the walk is to stand still -/
def Halt (P : Prop) : Prop := P
theorem halt {P : Prop} (h : Halt P) : P := h
section
variable {prog : Program} {w : World} {A : Around} {E : Value → Shared → Prop} {s : Shared} {env : Env} {h₀ : Heap} {x : Str} {body : List Stmt} {Q : Flow → Shared → Prop}
theorem range_loop {r : Addr} {b₀ : Int} {t₀ u₀ v₀ : Tok} {n : Nat} {m₀ : Str → Option Value} {news : List (Addr × Obj)} (J : Nat → (Str → Option Value) → List (Addr × Obj) → Prop)
    (hh : A.handled = none) (hr : IsRange s.heap r 0 b₀ 1 t₀ u₀ v₀) (hsmall : Builtin.Range.small 0 b₀ 1 = true) (hsz : Builtin.Range.rangeSize 0 b₀ 1 = (n : Int)) (F : Fr h₀ env.locals s.heap m₀) (N : News h₀ env.locals s.heap news) (hj : J 0 m₀ news)
    (turn : ∀ i t m₁ nx h tk own, i < n → OwnOff own (nx.map (·.1)) → J i m₁ nx → Fr h₀ env.locals h (fun y => if y = x then some (.int (i : Int) t) else m₁ y) → News h₀ env.locals h (nx ++ own) →
      wpAny (model prog w) A (execs body env) (InvPostG h₀ env.locals (J (i + 1)) own { s with heap := h, toks := tk } Q) E { s with heap := h, toks := tk })
    (done : ∀ m₁ nx h tk, J n m₁ nx → Fr h₀ env.locals h m₁ → News h₀ env.locals h nx → Q .next { s with heap := h, toks := tk }) :
    wpAny (model prog w) A (pyIter (.ref r)) (fun it s₂ => LoopAtV prog w A h₀ env x body Q E it s₂) E s := by
  refine wpAny_pyIter_range hr hsmall ?_
  have W : Walks prog w A s.heap.objs.size [s.heap.objs.size] [s.heap.objs.size] n (fun i v => i < n ∧ ∃ t, v = .int (0 + i * 1) t)
      (fun i h => IsRangeIter h s.heap.objs.size (0 + (i : Nat) * 1) ((n : Int) - (i : Nat)) 1) := (Walks.range hh _ 0 1 n).bound
  refine kdr_loop J W (fun _ h => h) (fun _ h => h) ?_ ?_ ?_ ?_ (by show IsRangeIter _ _ _ _ _; rw [hsz]; simpa using Heap.get?_push_size _ rfl) (F.push _) (fun p hp => ⟨Heap.get?_push_of_some _ (N p hp).1, (N p hp).2⟩) hj ?_ ?_
  · intro i h hi b hb
    rw [List.mem_singleton.mp hb]
    exact ⟨_, hi⟩
  · intro hm
    exact absurd F.ns.lt ((List.mem_singleton.mp hm) ▸ Nat.lt_irrefl _)
  · intro b hb
    rw [List.mem_singleton.mp hb]
    exact next_is_new F
  · intro p hp hI
    exact absurd (Heap.lt_size (N p hp).1) ((List.mem_singleton.mp hI) ▸ Nat.lt_irrefl _)
  · rintro i v m₁ nx h tk own hi ⟨_, t, rfl⟩ hoff hJ F₁ N₁
    have e1 : (0 : Int) + (i : Int) * 1 = (i : Int) := by lia
    rw [e1] at F₁
    exact turn i t m₁ nx h tk own hi hoff hJ F₁ N₁
  · intro m₁ nx h tk hJ F₁ N₁
    exact done m₁ nx h tk hJ F₁ N₁
/-- the frame's map, written out by what is known of it -/
theorem fr_say {L : Addr} {h : Heap} {m : Str → Option Value} (ps : List (Str × Value)) (F : Fr h₀ L h m) (hp : ∀ p ∈ ps, m p.1 = some p.2) : Fr h₀ L h (kstB m ps) := by
  have e : kstB m ps = m := by
    funext z
    exact kstB_eq hp fun _ => rfl
  rw [e]; exact F
end
/-- a turn's proof sees neither what stands behind the loop nor the invariant's text -/
theorem gen_inv {prog : Program} {w : World} {A : Around} {E : Value → Shared → Prop} {s s₁ : Shared} {r : Sem Flow} {Q : Flow → Shared → Prop} {h₀ : Heap} {L : Addr} {J : (Str → Option Value) → List (Addr × Obj) → Prop} {own : List (Addr × Obj)}
    (h : ∀ J' Q', (∀ m nx, J m nx → J' m nx) → wpAny (model prog w) A r (InvPostG h₀ L J' own s₁ Q') E s) : wpAny (model prog w) A r (InvPostG h₀ L J own s₁ Q) E s := h J Q fun _ _ x => x
theorem fr_sayX {h₀ : Heap} {L : Addr} {h : Heap} {m : Str → Option Value} {x : Str} {v : Option Value} (ps : List (Str × Value)) (F : Fr h₀ L h (fun y => if y = x then v else m y)) (hp : ∀ p ∈ ps, m p.1 = some p.2) (hx : ∀ p ∈ ps, p.1 ≠ x) :
    Fr h₀ L h (kstB (fun y => if y = x then v else m y) ps) :=
  fr_say ps F fun p hm => by
    show (if p.1 = x then v else m p.1) = some p.2
    rw [if_neg (hx p hm)]; exact hp p hm
theorem all0 {P : Str × Value → Prop} : ∀ p ∈ ([] : List (Str × Value)), P p := fun _ hp => nomatch hp
theorem allS {P : Str × Value → Prop} {q : Str × Value} {r : List (Str × Value)} (h : P q) (k : ∀ p ∈ r, P p) : ∀ p ∈ q :: r, P p := fun p hp => by
  rcases List.mem_cons.mp hp with e | hp
  · rw [e]; exact h
  · exact k p hp
theorem ownOff_cons {own : List (Addr × Obj)} {q : Addr} {l : List Addr} : OwnOff own (q :: l) ↔ (∀ p ∈ own, p.1 ≠ q) ∧ OwnOff own l := by
  constructor
  · intro h
    exact ⟨fun p hp => h p hp q (.head _), fun p hp b hb => h p hp b (.tail _ hb)⟩
  · intro h p hp b hb
    rcases List.mem_cons.mp hb with e | hb
    · rw [e]; exact h.1 p hp
    · exact h.2 p hp b hb
/-! the shares, plainly -/
def shStep (q c : Int) (xs : List Int) : List Int :=
  if Builtin.bitAnd c (1 * 2 ^ q.toNat) ≠ 0 then xs.set c.toNat ((xs.getD c.toNat 0 - xs.getD (Builtin.bitXor c (1 * 2 ^ q.toNat)).toNat 0).fmod 3) else xs
def shRow (q : Int) (k : Nat) (xs : List Int) : List Int := (List.range k).foldl (fun xs (c : Nat) => shStep q (c : Int) xs) xs
def shAll (k : Nat) (xs : List Int) : List Int := (List.range k).foldl (fun xs (q : Nat) => shRow (q : Int) 8 xs) xs
theorem shRow_succ (q : Int) (k : Nat) (xs : List Int) : shRow q (k + 1) xs = shStep q (k : Int) (shRow q k xs) := by
  unfold shRow; rw [List.range_succ, List.foldl_append]; rfl
theorem shAll_succ (k : Nat) (xs : List Int) : shAll (k + 1) xs = shRow (k : Int) 8 (shAll k xs) := by
  unfold shAll; rw [List.range_succ, List.foldl_append]; rfl
theorem shStep_length (q c : Int) (xs : List Int) : (shStep q c xs).length = xs.length := by unfold shStep; split <;> simp
theorem shRow_length (q : Int) (k : Nat) (xs : List Int) : (shRow q k xs).length = xs.length := by
  induction k with
  | zero => rfl
  | succ k ih => rw [shRow_succ, shStep_length, ih]
theorem shAll_length (k : Nat) (xs : List Int) : (shAll k xs).length = xs.length := by
  induction k with
  | zero => rfl
  | succ k ih => rw [shAll_succ, shRow_length, ih]
theorem xor_in : ∀ q c : Nat, q < 3 → c < 8 → 0 ≤ Builtin.bitXor (c : Int) (1 * 2 ^ ((q : Int)).toNat) ∧ Builtin.bitXor (c : Int) (1 * 2 ^ ((q : Int)).toNat) < 8 := by
  intro q c hq hc
  have : ∀ q : Fin 3, ∀ c : Fin 8, 0 ≤ Builtin.bitXor (c.1 : Int) (1 * 2 ^ ((q.1 : Int)).toNat) ∧ Builtin.bitXor (c.1 : Int) (1 * 2 ^ ((q.1 : Int)).toNat) < 8 := by decide +kernel
  exact this ⟨q, hq⟩ ⟨c, hc⟩
end Mine
end
/-! Shares -/
section
open PySem PySem.W PyProof.Rows
set_option maxRecDepth 100000
set_option maxHeartbeats 0
namespace Mine
local macro_rules | `(tactic| k_room) => `(tactic| ktr_room)
local macro_rules | `(tactic| k_units) => `(tactic| ktr_units)
local macro_rules | `(tactic| walk_at $s:str) => `(tactic| k_extra $s)
theorem walk_on_Shares : True := by
  k_with_none
  k_with "InvEndG" => (refine halt ?_)
  k_with "pyIter ref" => (k_here; (with_reducible show wpAny _ _ (pyIter (Value.ref _)) (fun it s₂ => LoopAtV _ _ _ _ _ _ _ _ _ it s₂) _ _); refine halt ?_)
  k_with "call ref" => (k_here; (with_reducible show wpAny _ _ (call (Value.ref 70) _) _ _ _); k_dflt (refine' spec_use (and_spec _ _ _ _ _ _) ?zhk1 ?zhk2 ?zhk3 ?zhk4 ?zhk5 ?zhkK ?zhkDp ?zhkUn ?_); (case zhk1 => k_asm); (case zhk2 => k_asm); (case zhk3 => k_asm); (case zhk4 => k_asm); (case zhk5 => k_asm); (case zhkK => first | (exact rfl) | assumption); (case zhkDp => ktr_room); (case zhkUn => ktr_units); intro zr9 ztl9 zh9 ztk9 zF9 zN9 zhl9 zho9; (obtain ⟨ze9, zt9, ze8⟩ := zho9); subst ze9; subst ze8; simp only [List.nil_append] at zN9; clear zhl9; (try dsimp only); (try k_fold))
  k_with "call ref" => (k_here; (with_reducible show wpAny _ _ (call (Value.ref 77) _) _ _ _); k_dflt (refine' spec_use (lshift_spec _ _ _ _ ?zhkA ?zhkB _) ?zhk1 ?zhk2 ?zhk3 ?zhk4 ?zhk5 ?zhkK ?zhkDp ?zhkUn ?_); (case zhk1 => k_asm); (case zhk2 => k_asm); (case zhk3 => k_asm); (case zhk4 => k_asm); (case zhk5 => k_asm); (case zhkK => first | (exact rfl) | assumption); (case zhkDp => ktr_room); (case zhkUn => ktr_units); (case zhkA => omega); (case zhkB => omega); intro zr9 ztl9 zh9 ztk9 zF9 zN9 zhl9 zho9; (obtain ⟨ze9, zt9, ze8⟩ := zho9); subst ze9; subst ze8; simp only [List.nil_append] at zN9; clear zhl9; (try dsimp only); (try k_fold))
  k_with "call ref" => (k_here; (with_reducible show wpAny _ _ (call (Value.ref 98) _) _ _ _); k_dflt (refine' spec_use (rshift_spec _ _ _ _ _ ?zhkA ?zhkB ?zhkC ?zhkD _) ?zhk1 ?zhk2 ?zhk3 ?zhk4 ?zhk5 ?zhkK ?zhkDp ?zhkUn ?_); (case zhk1 => k_asm); (case zhk2 => k_asm); (case zhk3 => k_asm); (case zhk4 => k_asm); (case zhk5 => k_asm); (case zhkK => first | (exact rfl) | assumption); (case zhkDp => ktr_room); (case zhkUn => ktr_units); (case zhkA => omega); (case zhkB => omega); (case zhkC => omega); (case zhkD => omega); intro zr9 ztl9 zh9 ztk9 zF9 zN9 zhl9 zho9; (obtain ⟨ze9, zt9, ze8⟩ := zho9); subst ze9; subst ze8; simp only [List.nil_append] at zN9; clear zhl9; (try dsimp only); (try k_fold))
  k_with "call ref" => (k_here; (with_reducible show wpAny _ _ (call (Value.ref 84) _) _ _ _); k_dflt (refine' spec_use (mod_spec _ _ _ _ _) ?zhk1 ?zhk2 ?zhk3 ?zhk4 ?zhk5 ?zhkK ?zhkDp ?zhkUn ?_); (case zhk1 => k_asm); (case zhk2 => k_asm); (case zhk3 => k_asm); (case zhk4 => k_asm); (case zhk5 => k_asm); (case zhkK => first | (exact rfl) | assumption); (case zhkDp => ktr_room); (case zhkUn => ktr_units); intro zr9 ztl9 zh9 ztk9 zF9 zN9 zhl9 zho9; (obtain ⟨ze9, zt9, ze8⟩ := zho9); subst ze9; subst ze8; simp only [List.nil_append] at zN9; clear zhl9; (try dsimp only); (try k_fold))
  k_with "call ref" => (k_here; (with_reducible show wpAny _ _ (call (Value.ref 105) _) _ _ _); k_dflt (refine' spec_use (sub_spec _ _ _ _ _ _) ?zhk1 ?zhk2 ?zhk3 ?zhk4 ?zhk5 ?zhkK ?zhkDp ?zhkUn ?_); (case zhk1 => k_asm); (case zhk2 => k_asm); (case zhk3 => k_asm); (case zhk4 => k_asm); (case zhk5 => k_asm); (case zhkK => first | (exact rfl) | assumption); (case zhkDp => ktr_room); (case zhkUn => ktr_units); intro zr9 ztl9 zh9 ztk9 zF9 zN9 zhl9 zho9; (obtain ⟨ze9, zt9, ze8⟩ := zho9); subst ze9; subst ze8; simp only [List.nil_append] at zN9; clear zhl9; (try dsimp only); (try k_fold))
  k_with "call ref" => (k_here; (with_reducible show wpAny _ _ (call (Value.ref 112) _) _ _ _); k_dflt (refine' spec_use (xor_spec _ _ _ _ _ _) ?zhk1 ?zhk2 ?zhk3 ?zhk4 ?zhk5 ?zhkK ?zhkDp ?zhkUn ?_); (case zhk1 => k_asm); (case zhk2 => k_asm); (case zhk3 => k_asm); (case zhk4 => k_asm); (case zhk5 => k_asm); (case zhkK => first | (exact rfl) | assumption); (case zhkDp => ktr_room); (case zhkUn => ktr_units); intro zr9 ztl9 zh9 ztk9 zF9 zN9 zhl9 zho9; (obtain ⟨ze9, zt9, ze8⟩ := zho9); subst ze9; subst ze8; simp only [List.nil_append] at zN9; clear zhl9; (try dsimp only); (try k_fold))
  k_with "call ref" => (k_here; (with_reducible show wpAny _ _ (call (Value.ref 63) _) _ _ _); k_dflt (refine' spec_use (add_spec _ _ _ _ _ _) ?zhk1 ?zhk2 ?zhk3 ?zhk4 ?zhk5 ?zhkK ?zhkDp ?zhkUn ?_); (case zhk1 => k_asm); (case zhk2 => k_asm); (case zhk3 => k_asm); (case zhk4 => k_asm); (case zhk5 => k_asm); (case zhkK => first | (exact rfl) | assumption); (case zhkDp => ktr_room); (case zhkUn => ktr_units); intro zr9 ztl9 zh9 ztk9 zF9 zN9 zhl9 zho9; (obtain ⟨ze9, zt9, ze8⟩ := zho9); subst ze9; subst ze8; simp only [List.nil_append] at zN9; clear zhl9; (try dsimp only); (try k_fold))
  k_with "call ref" => (k_here; (with_reducible show wpAny _ _ (call (Value.ref 91) _) _ _ _); k_dflt (refine' spec_use (neg_spec _ _ _ _) ?zhk1 ?zhk2 ?zhk3 ?zhk4 ?zhk5 ?zhkK ?zhkDp ?zhkUn ?_); (case zhk1 => k_asm); (case zhk2 => k_asm); (case zhk3 => k_asm); (case zhk4 => k_asm); (case zhk5 => k_asm); (case zhkK => first | (exact rfl) | assumption); (case zhkDp => ktr_room); (case zhkUn => ktr_units); intro zr9 ztl9 zh9 ztk9 zF9 zN9 zhl9 zho9; (obtain ⟨ze9, zt9, ze8⟩ := zho9); subst ze9; subst ze8; simp only [List.nil_append] at zN9; clear zhl9; (try dsimp only); (try k_fold))
  k_with "call ref" => (k_here; (with_reducible show wpAny _ _ (call (Value.ref 56) _) _ _ _); k_dflt (refine' spec_use (truth_spec _ _ _ _) ?zhk1 ?zhk2 ?zhk3 ?zhk4 ?zhk5 ?zhkK ?zhkDp ?zhkUn ?_); (case zhk1 => k_asm); (case zhk2 => k_asm); (case zhk3 => k_asm); (case zhk4 => k_asm); (case zhk5 => k_asm); (case zhkK => first | (exact rfl) | assumption); (case zhkDp => ktr_room); (case zhkUn => ktr_units); intro zr9 ztl9 zh9 ztk9 zF9 zN9 zhl9 zho9; (obtain ⟨ze9, ze8⟩ := zho9); subst ze9; subst ze8; simp only [List.nil_append] at zN9; clear zhl9; (try dsimp only); (try k_fold))
  k_with "call ref" => (k_here; (with_reducible show wpAny _ _ (call (Value.ref 119) _) _ _ _); k_dflt (refine' spec_use (getitem_spec _ _ _ _ _ _ _ _ ?zhkM ?zhkI ?zhkA ?zhkB ?zhkC) ?zhk1 ?zhk2 ?zhk3 ?zhk4 ?zhk5 ?zhkK ?zhkDp ?zhkUn ?_); (case zhk1 => k_asm); (case zhk2 => k_asm); (case zhk3 => k_asm); (case zhk4 => k_asm); (case zhk5 => k_asm); (case zhkK => first | (exact rfl) | assumption); (case zhkDp => ktr_room); (case zhkUn => ktr_units); (case zhkM => k_mem); (case zhkI => assumption); (case zhkA => omega); (case zhkB => omega); (case zhkC => omega); intro zr9 ztl9 zh9 ztk9 zF9 zN9 zhl9 zho9; (obtain ⟨ze9, zt9, ze8⟩ := zho9); subst ze9; subst ze8; simp only [List.nil_append] at zN9; clear zhl9; (try dsimp only); (try k_fold))
  k_with "call ref" => (k_here; (with_reducible show wpAny _ _ (call (Value.ref 126) _) _ _ _); k_dflt (refine' specM_use (setitem_spec _ _ _ _ _ _ _ _ _ ?zhkI ?zhkA ?zhkB ?zhkC) ?zhk1 ?zhk2 ?zhk3 ?zhk4 ?zhk5 ?zhkK ?zhkDp ?zhkUn ?zhkN ?_); (case zhk1 => k_asm); (case zhk2 => k_asm); (case zhk3 => k_asm); (case zhk4 => k_asm); (case zhk5 => k_asm); (case zhkK => first | (exact rfl) | assumption); (case zhkDp => ktr_room); (case zhkUn => ktr_units); (case zhkI => assumption); (case zhkA => omega); (case zhkB => omega); (case zhkC => omega); (case zhkN => assumption); intro zh9 ztk9 zF9 zN9; (try dsimp only); (try k_fold))
  trivial
theorem sub_left {p q : Addr × Obj} {own own2 : List (Addr × Obj)} : ∀ x ∈ p :: q :: own, x ∈ p :: q :: (own ++ own2) := fun x hx => by
  rcases List.mem_cons.mp hx with e | hx
  · rw [e]; exact .head _
  · rcases List.mem_cons.mp hx with e | hx
    · rw [e]; exact .tail _ (.head _)
    · exact .tail _ (.tail _ (List.mem_append_left _ hx))
theorem sub_right {p q : Addr × Obj} {own own2 : List (Addr × Obj)} : ∀ x ∈ own2, x ∈ p :: q :: (own ++ own2) := fun x hx => .tail _ (.tail _ (List.mem_append_right _ hx))
theorem inv_end2 {h₀ : Heap} {L : Addr} {J : (Str → Option Value) → List (Addr × Obj) → Prop} {m' : Str → Option Value} {p q : Addr × Obj} {own own2 : List (Addr × Obj)} {s₁ : Shared} {h' : Heap} {tk : Nat} (F : Fr h₀ L h' m') (N : News h₀ L h' (p :: q :: (own ++ own2)))
    (hj : J m' (p :: q :: own)) (ha : OwnOff own2 ((p :: q :: own).map (·.1))) : InvEndG h₀ L J own2 s₁ { s₁ with heap := h', toks := tk } := InvEndG.intro F N hj ha sub_left sub_right
abbrev OutS (xs : List Int) (r : Value) (tl : List (Addr × Obj)) : Prop := ∃ D vs n, r = .ref D ∧ tl = [(D, listOf vs.toArray n)] ∧ IntsAre vs xs
theorem shares_spec (w : World) (l : Addr) (nn : Nat) (tv : List Value) (ts : List Int) (hi : IntsAre tv ts) (hlen : ts.length = 8) :
    SpecF w 133 [.ref l] 3 [(l, listOf tv.toArray nn)] (OutS (shAll 3 ts)) := by
  unfold SpecF
  k_fill
  intro mean mg mb dp un gd cn cs a9 ccd cl outer A₀ base h₀ L m s Q E B F X N T hk hdp hun hret
  refine wpAny_call ?_
  k_dflt (refine' code_defF ?k1 ?k2 ?k3 ?k4 ?k5 ?kA ?kF ?kK ?k6 ?k7 ?k8 ?k9 ?kB ?_ ?c2 ?c3 ?c4 ?c5; (case kA => exact rfl); (case kF => exact rfl); (case kK => assumption); (case k1 => k_asm); (case k2 => k_asm); (case k3 => k_asm); (case k4 => k_asm); (case k5 => k_asm); (case k6 => k_is); (case k7 => k_is); (case k8 => ktr_room); (case k9 => exact BindsTo.of_eq rfl); (case c5 => decide); (case kB => exact locs rfl); (case c2 => exact rfl); (case c3 => exact rfl); (case c4 => exact rfl); k_whole; intro g9 L9 h9 FG9 F9 N9 B9 X9 T9 hgk; (try dsimp only); (try k_fold))
  k_steps
  rename l < _ => hlD
  unfold Halt
  rename IsRange _ _ _ _ _ _ _ _ => R1
  refine range_loop (n := 3) (fun i m nx => ∃ D sv n', m (Str.ofString "shares") = some (.ref D) ∧ nx = [(D, listOf sv.toArray n'), (l, listOf tv.toArray nn)] ∧ IntsAre sv (shAll i ts) ∧ l ≠ D) rfl R1 rfl rfl (by assumption) (by assumption) ⟨_, _, _, rfl, rfl, hi, Nat.ne_of_lt hlD⟩ ?_ ?_
  · intro i t m₁ nx h tk own hi3 hoff hJ F1 N1
    refine gen_inv ?_
    intro JA QA hJA
    obtain ⟨D, sv, n', hm, rfl, hsv, hne⟩ := hJ
    have F2 := fr_sayX [(Str.ofString "shares", .ref D)] F1 (allS hm all0) (allS (show Str.ofString "shares" ≠ Str.ofString "question" by decide) all0)
    dsimp only [kstB] at F2
    simp only [List.cons_append, List.nil_append] at N1
    clear F1 R1
    k_steps
    unfold Halt
    rename IsRange _ _ _ _ _ _ _ _ => R2
    refine range_loop (n := 8) (fun c m nx => ∃ sv n', m (Str.ofString "shares") = some (.ref D) ∧ m (Str.ofString "question") = some (.int i t) ∧ nx = (D, listOf sv.toArray n') :: (l, listOf tv.toArray nn) :: own ∧ IntsAre sv (shRow i c (shAll i ts))) rfl R2 rfl rfl (by assumption) (by assumption) ⟨_, _, rfl, rfl, rfl, hsv⟩ ?_ ?_
    · intro c t2 m₂ nx2 h2 tk2 own2 hc hoff2 hJ2 F3 N3
      refine gen_inv ?_
      intro JB QB hJB
      obtain ⟨sv2, n2, hm1, hm2, rfl, hsv2⟩ := hJ2
      have F4 := fr_sayX [(Str.ofString "shares", .ref D), (Str.ofString "question", .int i t)] F3 (allS hm1 (allS hm2 all0)) (allS (show Str.ofString "shares" ≠ Str.ofString "chosen" by decide) (allS (show Str.ofString "question" ≠ Str.ofString "chosen" by decide) all0))
      dsimp only [kstB] at F4
      simp only [List.cons_append] at N3
      have hx := xor_in i c hi3 hc
      have hl8 : (shRow i c (shAll i ts)).length = 8 := by rw [shRow_length, shAll_length, hlen]
      simp only [List.map_cons, List.map_nil, ownOff_cons] at hoff hoff2
      have hne2 : ∀ p ∈ (l, listOf tv.toArray nn) :: (own ++ own2), p.1 ≠ D := by
        intro p hp
        rcases List.mem_cons.mp hp with e | hp
        · rw [e]; exact hne
        · rcases List.mem_append.mp hp with hp | hp
          · exact hoff.1 p hp
          · exact hoff2.1 p hp
      clear F3 R2
      k_steps
      · unfold Halt
        refine inv_end2 (by assumption) (by assumption) (hJB _ _ ⟨_, _, by with_unfolding_all rfl, by with_unfolding_all rfl, rfl, ?_⟩) ?_
        · rw [shRow_succ]
          unfold shStep
          rw [if_pos (by assumption)]
          exact ints_set hsv2 _
        · exact ownOff_cons.mpr ⟨hoff2.1, ownOff_cons.mpr hoff2.2⟩
      · unfold Halt
        refine inv_end2 (by assumption) (by assumption) (hJB _ _ ⟨_, _, by with_unfolding_all rfl, by with_unfolding_all rfl, rfl, ?_⟩) ?_
        · rw [shRow_succ]
          unfold shStep
          rw [if_neg (by assumption)]
          exact hsv2
        · exact ownOff_cons.mpr ⟨hoff2.1, ownOff_cons.mpr hoff2.2⟩
    · intro m₂ nx2 h2 tk2 hJ2 F3 N3
      obtain ⟨sv2, n2, hm1, hm2, rfl, hsv2⟩ := hJ2
      k_steps
      unfold Halt
      refine InvEndG.intro F3 N3 (hJA _ _ ⟨D, sv2, n2, hm1, rfl, by rw [shAll_succ]; exact hsv2, hne⟩) hoff ?_ ?_
      · exact fun p hp => by
          rcases List.mem_cons.mp hp with e | hp
          · rw [e]; exact .head _
          · rw [List.mem_singleton.mp hp]; exact .tail _ (.head _)
      · exact fun p hp => .tail _ (.tail _ hp)
  · intro m₁ nx h tk hJ F1 N1
    obtain ⟨D, sv, n', hm, rfl, hsv, hne⟩ := hJ
    have F2 := fr_say [(Str.ofString "shares", .ref D)] F1 (allS hm all0)
    dsimp only [kstB] at F2
    k_steps
    have hD : s.heap.get? D = none := by
      cases e : s.heap.get? D with
      | none => rfl
      | some o =>
        have h1 := hgk D o e (fun q => hne (List.mem_singleton.mp q).symm)
        have h2 := (N1 _ (.head _)).2.2
        rw [h1] at h2; cases h2
    refine hret _ [(D, listOf sv.toArray n')] h tk (by assumption) (by assumption) (fun b o e nb => F1.keep b o (hgk b o e nb)) (fun q hq => by rw [List.mem_singleton.mp hq]; exact hD) ⟨D, sv, n', rfl, rfl, hsv⟩
end Mine
end
namespace Mine
theorem walk_off_Shares : True := by
  w_top off
  k_with_none
  trivial
end Mine
/-! LcMap -/
section
open PySem PySem.W PyProof.Rows
set_option maxRecDepth 100000
set_option maxHeartbeats 1000000
namespace Mine
open LCg
/-- a comprehension over ints: the element once, for any of them -/
def EltIs (h₀ : Heap) (L : Addr) (m : Str → Option Value) (s : Shared) (all : List (Addr × Obj)) (v : Int) (y : Value) (s₂ : Shared) : Prop :=
  ∃ t' h' tk', y = .int v t' ∧ s₂ = { s with heap := h', toks := tk' } ∧ Fr h₀ L h' m ∧ News h₀ L h' all
section
variable {prog : Program} {w : World} {A : Around} {s : Shared} {h₀ : Heap} {L : Addr} {m : Str → Option Value} {env : Env}
theorem eltIs {all : List (Addr × Obj)} {v u : Int} {t : Tok} {h' : Heap} {tk' : Nat} (e : u = v) (F : Fr h₀ L h' m) (N : News h₀ L h' all) : EltIs h₀ L m s all v (.int u t) { s with heap := h', toks := tk' } := by
  subst e; exact ⟨t, h', tk', rfl, rfl, F, N⟩
theorem compRest_map {elt : PySem.Expr} {x : Str} {scope : Scope} {cl : List (Str × Addr)} {S : List (Addr × Obj) → Prop} {Fin : List Value → List (Addr × Obj) → Prop} {vs : List Value} {ns : List Int} {news : List (Addr × Obj)} (g : Int → Int) (hi : IntsAre vs ns) (hS : S news)
    (elem : ∀ n t I oI C oC D ys m₂ h tk (E' : Value → Shared → Prop), n ∈ ns → NsObj oC m₂ → m₂ x = some (.int n t) → Fr h₀ L h m → News h₀ L h ((I, oI) :: (C, oC) :: (D, lst ys) :: news) →
      wpAny (model prog w) A (eval elt (compEnvC scope cl C env)) (EltIs h₀ L m s ((I, oI) :: (C, oC) :: (D, lst ys) :: news) (g n)) E' { s with heap := h, toks := tk })
    (fin : ∀ ys, IntsAre ys (ns.map g) → Fin ys news) :
    CompRest prog w A h₀ L m env elt x scope cl s S (fun i v => vs.toArray[i]? = some v) Fin vs.toArray.size 0 [] news := by
  have key : ∀ (k i : Nat) (ys : List Value), i + k = ns.length → IntsAre ys ((ns.take i).map g) → CompRest prog w A h₀ L m env elt x scope cl s S (fun i v => vs.toArray[i]? = some v) Fin k i ys news := by
    intro k
    induction k with
    | zero =>
      intro i ys hk hy
      refine CompRest.zero (fin ys ?_)
      rw [show i = ns.length by lia, List.take_length] at hy
      exact hy
    | succ k ih =>
      intro i ys hk hy
      refine CompRest.succ ?_
      intro v I oI C oC D m₂ h tk E' hP hC hx F N off ne
      have hlt : i < ns.length := by lia
      obtain ⟨t, ht⟩ := hi.get i ns[i] (by simp [hlt])
      have hv : v = .int ns[i] t := by
        have hP' : vs[i]? = some v := by simpa using hP
        rw [ht] at hP'; exact (Option.some.inj hP').symm
      subst hv
      refine wpAny_mono (elem ns[i] t I oI C oC D ys m₂ h tk E' (List.getElem_mem hlt) hC hx F N) (fun y s₂ hq => ?_) fun _ _ e => e
      obtain ⟨t', h', tk', rfl, rfl, F', N'⟩ := hq
      refine compEnd_same (s₁ := { s with heap := h, toks := tk }) F' N' off hS (ih (i + 1) (ys ++ [.int (g ns[i]) t']) (by lia) ?_)
      rw [List.take_add_one, List.map_append]
      have e : ns[i]?.toList = [ns[i]] := by simp [hlt]
      rw [e]
      exact hy.append (.cons _ _ .nil)
  have hsz : vs.toArray.size = ns.length := by simp [hi.length]
  rw [hsz]
  exact key ns.length 0 [] (by lia) .nil
end
end Mine
end
/-! Words -/
section
open PySem PySem.W PyProof.Rows
set_option maxRecDepth 100000
set_option maxHeartbeats 0
namespace Mine
local macro_rules | `(tactic| k_room) => `(tactic| ktr_room)
local macro_rules | `(tactic| k_units) => `(tactic| ktr_units)

local macro_rules | `(tactic| walk_at $s:str) => `(tactic| k_extra $s)
theorem walk_on_Words : True := by
  k_with_none
  k_with "InvEndG" => (refine halt ?_)
  k_with "CompSrc" => (refine halt ?_)
  k_with "pyIter ref" => (k_here; (with_reducible show wpAny _ _ (pyIter (Value.ref _)) (fun it s₂ => LoopAtV _ _ _ _ _ _ _ _ _ it s₂) _ _); refine halt ?_)
  k_with "call ref" => (k_here; (with_reducible show wpAny _ _ (call (Value.ref 70) _) _ _ _); k_dflt (refine' spec_use (and_spec _ _ _ _ _ _) ?zhk1 ?zhk2 ?zhk3 ?zhk4 ?zhk5 ?zhkK ?zhkDp ?zhkUn ?_); (case zhk1 => k_asm); (case zhk2 => k_asm); (case zhk3 => k_asm); (case zhk4 => k_asm); (case zhk5 => k_asm); (case zhkK => first | (exact rfl) | assumption); (case zhkDp => ktr_room); (case zhkUn => ktr_units); intro zr9 ztl9 zh9 ztk9 zF9 zN9 zhl9 zho9; (obtain ⟨ze9, zt9, ze8⟩ := zho9); subst ze9; subst ze8; simp only [List.nil_append] at zN9; clear zhl9; (try dsimp only); (try k_fold))
  k_with "call ref" => (k_here; (with_reducible show wpAny _ _ (call (Value.ref 77) _) _ _ _); k_dflt (refine' spec_use (lshift_spec _ _ _ _ ?zhkA ?zhkB _) ?zhk1 ?zhk2 ?zhk3 ?zhk4 ?zhk5 ?zhkK ?zhkDp ?zhkUn ?_); (case zhk1 => k_asm); (case zhk2 => k_asm); (case zhk3 => k_asm); (case zhk4 => k_asm); (case zhk5 => k_asm); (case zhkK => first | (exact rfl) | assumption); (case zhkDp => ktr_room); (case zhkUn => ktr_units); (case zhkA => omega); (case zhkB => omega); intro zr9 ztl9 zh9 ztk9 zF9 zN9 zhl9 zho9; (obtain ⟨ze9, zt9, ze8⟩ := zho9); subst ze9; subst ze8; simp only [List.nil_append] at zN9; clear zhl9; (try dsimp only); (try k_fold))
  k_with "call ref" => (k_here; (with_reducible show wpAny _ _ (call (Value.ref 98) _) _ _ _); k_dflt (refine' spec_use (rshift_spec _ _ _ _ _ ?zhkA ?zhkB ?zhkC ?zhkD _) ?zhk1 ?zhk2 ?zhk3 ?zhk4 ?zhk5 ?zhkK ?zhkDp ?zhkUn ?_); (case zhk1 => k_asm); (case zhk2 => k_asm); (case zhk3 => k_asm); (case zhk4 => k_asm); (case zhk5 => k_asm); (case zhkK => first | (exact rfl) | assumption); (case zhkDp => ktr_room); (case zhkUn => ktr_units); (case zhkA => omega); (case zhkB => omega); (case zhkC => omega); (case zhkD => omega); intro zr9 ztl9 zh9 ztk9 zF9 zN9 zhl9 zho9; (obtain ⟨ze9, zt9, ze8⟩ := zho9); subst ze9; subst ze8; simp only [List.nil_append] at zN9; clear zhl9; (try dsimp only); (try k_fold))
  k_with "call ref" => (k_here; (with_reducible show wpAny _ _ (call (Value.ref 84) _) _ _ _); k_dflt (refine' spec_use (mod_spec _ _ _ _ _) ?zhk1 ?zhk2 ?zhk3 ?zhk4 ?zhk5 ?zhkK ?zhkDp ?zhkUn ?_); (case zhk1 => k_asm); (case zhk2 => k_asm); (case zhk3 => k_asm); (case zhk4 => k_asm); (case zhk5 => k_asm); (case zhkK => first | (exact rfl) | assumption); (case zhkDp => ktr_room); (case zhkUn => ktr_units); intro zr9 ztl9 zh9 ztk9 zF9 zN9 zhl9 zho9; (obtain ⟨ze9, zt9, ze8⟩ := zho9); subst ze9; subst ze8; simp only [List.nil_append] at zN9; clear zhl9; (try dsimp only); (try k_fold))
  k_with "call ref" => (k_here; (with_reducible show wpAny _ _ (call (Value.ref 105) _) _ _ _); k_dflt (refine' spec_use (sub_spec _ _ _ _ _ _) ?zhk1 ?zhk2 ?zhk3 ?zhk4 ?zhk5 ?zhkK ?zhkDp ?zhkUn ?_); (case zhk1 => k_asm); (case zhk2 => k_asm); (case zhk3 => k_asm); (case zhk4 => k_asm); (case zhk5 => k_asm); (case zhkK => first | (exact rfl) | assumption); (case zhkDp => ktr_room); (case zhkUn => ktr_units); intro zr9 ztl9 zh9 ztk9 zF9 zN9 zhl9 zho9; (obtain ⟨ze9, zt9, ze8⟩ := zho9); subst ze9; subst ze8; simp only [List.nil_append] at zN9; clear zhl9; (try dsimp only); (try k_fold))
  k_with "call ref" => (k_here; (with_reducible show wpAny _ _ (call (Value.ref 112) _) _ _ _); k_dflt (refine' spec_use (xor_spec _ _ _ _ _ _) ?zhk1 ?zhk2 ?zhk3 ?zhk4 ?zhk5 ?zhkK ?zhkDp ?zhkUn ?_); (case zhk1 => k_asm); (case zhk2 => k_asm); (case zhk3 => k_asm); (case zhk4 => k_asm); (case zhk5 => k_asm); (case zhkK => first | (exact rfl) | assumption); (case zhkDp => ktr_room); (case zhkUn => ktr_units); intro zr9 ztl9 zh9 ztk9 zF9 zN9 zhl9 zho9; (obtain ⟨ze9, zt9, ze8⟩ := zho9); subst ze9; subst ze8; simp only [List.nil_append] at zN9; clear zhl9; (try dsimp only); (try k_fold))
  k_with "call ref" => (k_here; (with_reducible show wpAny _ _ (call (Value.ref 63) _) _ _ _); k_dflt (refine' spec_use (add_spec _ _ _ _ _ _) ?zhk1 ?zhk2 ?zhk3 ?zhk4 ?zhk5 ?zhkK ?zhkDp ?zhkUn ?_); (case zhk1 => k_asm); (case zhk2 => k_asm); (case zhk3 => k_asm); (case zhk4 => k_asm); (case zhk5 => k_asm); (case zhkK => first | (exact rfl) | assumption); (case zhkDp => ktr_room); (case zhkUn => ktr_units); intro zr9 ztl9 zh9 ztk9 zF9 zN9 zhl9 zho9; (obtain ⟨ze9, zt9, ze8⟩ := zho9); subst ze9; subst ze8; simp only [List.nil_append] at zN9; clear zhl9; (try dsimp only); (try k_fold))
  k_with "call ref" => (k_here; (with_reducible show wpAny _ _ (call (Value.ref 91) _) _ _ _); k_dflt (refine' spec_use (neg_spec _ _ _ _) ?zhk1 ?zhk2 ?zhk3 ?zhk4 ?zhk5 ?zhkK ?zhkDp ?zhkUn ?_); (case zhk1 => k_asm); (case zhk2 => k_asm); (case zhk3 => k_asm); (case zhk4 => k_asm); (case zhk5 => k_asm); (case zhkK => first | (exact rfl) | assumption); (case zhkDp => ktr_room); (case zhkUn => ktr_units); intro zr9 ztl9 zh9 ztk9 zF9 zN9 zhl9 zho9; (obtain ⟨ze9, zt9, ze8⟩ := zho9); subst ze9; subst ze8; simp only [List.nil_append] at zN9; clear zhl9; (try dsimp only); (try k_fold))
  k_with "call ref" => (k_here; (with_reducible show wpAny _ _ (call (Value.ref 56) _) _ _ _); k_dflt (refine' spec_use (truth_spec _ _ _ _) ?zhk1 ?zhk2 ?zhk3 ?zhk4 ?zhk5 ?zhkK ?zhkDp ?zhkUn ?_); (case zhk1 => k_asm); (case zhk2 => k_asm); (case zhk3 => k_asm); (case zhk4 => k_asm); (case zhk5 => k_asm); (case zhkK => first | (exact rfl) | assumption); (case zhkDp => ktr_room); (case zhkUn => ktr_units); intro zr9 ztl9 zh9 ztk9 zF9 zN9 zhl9 zho9; (obtain ⟨ze9, ze8⟩ := zho9); subst ze9; subst ze8; simp only [List.nil_append] at zN9; clear zhl9; (try dsimp only); (try k_fold))
  k_with "call ref" => (k_here; (with_reducible show wpAny _ _ (call (Value.ref 119) _) _ _ _); k_dflt (refine' spec_use (getitem_spec _ _ _ _ _ _ _ _ ?zhkM ?zhkI ?zhkA ?zhkB ?zhkC) ?zhk1 ?zhk2 ?zhk3 ?zhk4 ?zhk5 ?zhkK ?zhkDp ?zhkUn ?_); (case zhk1 => k_asm); (case zhk2 => k_asm); (case zhk3 => k_asm); (case zhk4 => k_asm); (case zhk5 => k_asm); (case zhkK => first | (exact rfl) | assumption); (case zhkDp => ktr_room); (case zhkUn => ktr_units); (case zhkM => k_mem); (case zhkI => assumption); (case zhkA => omega); (case zhkB => omega); (case zhkC => omega); intro zr9 ztl9 zh9 ztk9 zF9 zN9 zhl9 zho9; (obtain ⟨ze9, zt9, ze8⟩ := zho9); subst ze9; subst ze8; simp only [List.nil_append] at zN9; clear zhl9; (try dsimp only); (try k_fold))
  k_with "subscriptTail Name Slice ref ref" => (k_here; (with_reducible show wpAny _ _ (subscriptTail _ (PySem.Expr.Slice none none (some _) _) (Value.ref _) (Value.ref _)) _ _ _); k_dflt (refine' krv_ints ?zhF ?zhN ?zhl ?zhk ?zhi ?_ ?zhs ?zht ?zhz; (case zhF => k_asm); (case zhN => k_asm); (case zhl => exact News.isList (by k_asm) (by k_mem)); (case zhk => exact IsPart.int _ _); (case zhi => assumption); (case zhs => with_unfolding_all rfl); (case zht => kmk_pure); (case zhz => (rw [List.size_toArray, IntsAre.length (by assumption), sizeLine_eq]; omega))); intro zD' zws' zh' zF' zN' zl1 zhI' zhC')
  k_with "exec Assign cons ListComp" => (k_here; k_dflt (refine LCg.Assign_ListComp_U (F₀ := by k_asm) (by rfl) (by with_unfolding_all rfl) (by rfl) (by decide) (by rfl) (by decide) (by rfl) (by rfl) (by rfl) ?_))
  k_with "binaryOp Add ref ref" => (k_here; (with_reducible show wpAny _ _ (binaryOp _ (Value.ref _) (Value.ref _)) _ _ _); k_dflt (refine' kmk_add_ints ?zhF ?zhN ?zha ?zhb ?zhi ?zhj ?_ ?zhz; (case zhF => k_asm); (case zhN => k_asm); (case zha => exact News.isList (by k_asm) (by k_mem)); (case zhb => exact News.isList (by k_asm) (by k_mem)); (case zhi => first | assumption | l_ints); (case zhj => first | assumption | l_ints); (case zhz => (simp only [sizeLine_eq, List.length_append, List.length_map, List.length_reverse, List.length_cons, List.length_nil]; omega))); intro zD' zws' zh' zF' zN' zl1 zhI')
  trivial
def backF (n : Int) : Int := if n < 3 then n else 3 + (-n).fmod 3
def wdStep (q c : Int) (ws : List Int) : List Int := if Builtin.bitAnd (c.fdiv (2 ^ q.toNat)) 1 ≠ 0 then [q] ++ ws ++ [q] ++ ws.reverse.map backF else ws
def wdAll (c : Int) (k : Nat) (ws : List Int) : List Int := (List.range k).foldl (fun ws (q : Nat) => wdStep (q : Int) c ws) ws
theorem wdAll_succ (c : Int) (k : Nat) (ws : List Int) : wdAll c (k + 1) ws = wdStep (k : Int) c (wdAll c k ws) := by
  unfold wdAll; rw [List.range_succ, List.foldl_append]; rfl
theorem wdAll_length (c : Int) (k : Nat) (x : Int) : (wdAll c k [x]).length + 2 ≤ 3 * 2 ^ k := by
  induction k with
  | zero => exact Nat.le_refl 3
  | succ k ih =>
    rw [wdAll_succ, Nat.pow_succ]
    unfold wdStep
    split
    · simp only [List.length_append, List.length_map, List.length_reverse, List.length_cons, List.length_nil]; omega
    · omega
theorem inv_endH {h₀ : Heap} {L : Addr} {J : (Str → Option Value) → List (Addr × Obj) → Prop} {m' : Str → Option Value} {p : Addr × Obj} {all own : List (Addr × Obj)} {s₁ : Shared} {h' : Heap} {tk : Nat} (F : Fr h₀ L h' m') (N : News h₀ L h' (p :: all))
    (hj : J m' [p]) (hlt : ∀ q ∈ all, q.1 < p.1) (hs : ∀ q ∈ own, q ∈ all) : InvEndG h₀ L J own s₁ { s₁ with heap := h', toks := tk } :=
  InvEndG.intro F N hj (fun q hq b hb => by rw [List.mem_singleton.mp hb]; exact Nat.ne_of_lt (hlt q (hs q hq))) (fun q hq => by rw [List.mem_singleton.mp hq]; exact .head _) (fun q hq => .tail _ (hs q hq))
theorem word_spec (w : World) (c s : Int) (tc ts : Tok) (hc : 0 ≤ c) (hc7 : c ≤ 7) :
    SpecF w 138 [.int c tc, .int s ts] 3 [] (OutS (wdAll c 3 [3 + s])) := by
  unfold SpecF
  k_fill
  intro mean mg mb dp un gd cn cs a9 ccd cl outer A₀ base h₀ L m σ Q E B F X N T hk hdp hun hret
  refine wpAny_call ?_
  k_dflt (refine' code_defF ?k1 ?k2 ?k3 ?k4 ?k5 ?kA ?kF ?kK ?k6 ?k7 ?k8 ?k9 ?kB ?_ ?c2 ?c3 ?c4 ?c5; (case kA => exact rfl); (case kF => exact rfl); (case kK => assumption); (case k1 => k_asm); (case k2 => k_asm); (case k3 => k_asm); (case k4 => k_asm); (case k5 => k_asm); (case k6 => k_is); (case k7 => k_is); (case k8 => ktr_room); (case k9 => exact BindsTo.of_eq rfl); (case c5 => decide); (case kB => exact locs rfl); (case c2 => exact rfl); (case c3 => exact rfl); (case c4 => exact rfl); k_whole; intro g9 L9 h9 FG9 F9 N9 B9 X9 T9 hgk; (try dsimp only); (try k_fold))
  k_steps
  unfold Halt
  rename IsRange _ _ _ _ _ _ _ _ => R1
  refine range_loop (n := 3) (fun i m nx => ∃ D vs n', m (Str.ofString "word") = some (.ref D) ∧ m (Str.ofString "chosen") = some (.int c tc) ∧ nx = [(D, listOf vs.toArray n')] ∧ IntsAre vs (wdAll c i [3 + s])) rfl R1 rfl rfl (by assumption) (by assumption) ⟨_, [_], _, rfl, rfl, rfl, .cons _ _ .nil⟩ ?_ ?_
  · intro i t m₁ nx h tk own hi3 hoff hJ F1 N1
    refine gen_inv ?_
    intro JA QA hJA
    obtain ⟨D, vs, n', hm, hm2, rfl, hvs⟩ := hJ
    have F2 := fr_sayX [(Str.ofString "word", .ref D), (Str.ofString "chosen", .int c tc)] F1 (allS hm (allS hm2 all0)) (allS (show Str.ofString "word" ≠ Str.ofString "question" by decide) (allS (show Str.ofString "chosen" ≠ Str.ofString "question" by decide) all0))
    dsimp only [kstB] at F2
    simp only [List.cons_append, List.nil_append] at N1
    clear F1 R1
    have hl9 : (wdAll c i [3 + s]).length + 2 ≤ 24 := Nat.le_trans (wdAll_length c i (3 + s)) (Nat.mul_le_mul_left 3 (Nat.pow_le_pow_right (by decide) (show i ≤ 3 by omega)))
    have hl8 : (wdAll c i [3 + s]).reverse.length + 2 ≤ 24 := by rw [List.length_reverse]; exact hl9
    k_steps
    · rename IntsAre _ (wdAll c i [3 + s]).reverse => hI9
      unfold Halt
      refine LCg.CompSrc.ledger rfl (by assumption) (by assumption) (.head _) (by rw [List.size_toArray, hI9.length, sizeLine_eq]; omega) ?_
      intro g8
      refine compRest_map backF hI9 (Or.inr ⟨_, .head _, rfl, _, rfl⟩) ?_ ?_
      · intro n9 t9 I9 oI9 C9 oC9 D9 ys9 m9 h9 tk9 E9 hn9 hC9 hx9 F9 N9
        (try dsimp only)
        k_steps
        · exact eltIs (by unfold backF; rw [if_pos (by assumption)]) (by assumption) (by assumption)
        · exact eltIs (by unfold backF; rw [if_neg (by assumption)]) (by assumption) (by assumption)
      · intro ys9 hy9
        unfold LCg.FinA
        intro D9 h9 tk9 F9 N9 o9
        (try simp only [LCg.Off1, and_true] at o9)
        (try dsimp only)
        k_steps
        unfold Halt
        refine inv_endH (by assumption) (by assumption) (hJA _ _ ⟨_, _, _, by with_unfolding_all rfl, by with_unfolding_all rfl, rfl, ?_⟩) (by assumption) (fun q hq => .tail _ (.tail _ (.tail _ (.tail _ (.tail _ (.tail _ (.tail _ hq)))))))
        rw [wdAll_succ]
        unfold wdStep
        rw [if_pos (by assumption)]
        assumption
    · unfold Halt
      refine InvEndG.intro (news' := (D, listOf vs.toArray n') :: own) (by assumption) (by assumption) (hJA _ _ ⟨_, _, _, by with_unfolding_all rfl, by with_unfolding_all rfl, rfl, ?_⟩) hoff (fun q hq => ?_) (fun q hq => .tail _ hq)
      · rw [wdAll_succ]
        unfold wdStep
        rw [if_neg (by assumption)]
        exact hvs
      · rw [List.mem_singleton.mp hq]; exact .head _
  · intro m₁ nx h tk hJ F1 N1
    obtain ⟨D, vs, n', hm, hm2, rfl, hvs⟩ := hJ
    have F2 := fr_say [(Str.ofString "word", .ref D)] F1 (allS hm all0)
    dsimp only [kstB] at F2
    k_steps
    have hD : σ.heap.get? D = none := by
      cases e : σ.heap.get? D with
      | none => rfl
      | some o =>
        have h1 := hgk D o e (fun q => nomatch q)
        have h2 := (N1 _ (.head _)).2.2
        rw [h1] at h2; cases h2
    exact hret _ [(D, listOf vs.toArray n')] h tk (by assumption) (by assumption) (fun b o e nb => F1.keep b o (hgk b o e nb)) (fun q hq => by rw [List.mem_singleton.mp hq]; exact hD) ⟨D, vs, n', rfl, rfl, hvs⟩
end Mine
end
namespace Mine
theorem walk_off_Words : True := by
  w_top off
  k_with_none
  trivial
end Mine
/-! LcMap2 -/
section
open PySem PySem.W PyProof.Rows
set_option maxRecDepth 100000
set_option maxHeartbeats 1000000
namespace Mine
open LCg
section
variable {prog : Program} {w : World} {A : Around} {s : Shared} {h₀ : Heap} {L : Addr} {m : Str → Option Value} {env : Env}
/-- over a range: the element once, for any of its numbers -/
theorem compRest_rangeMap {elt : PySem.Expr} {x : Str} {scope : Scope} {cl : List (Str × Addr)} {Fin : List Value → List (Addr × Obj) → Prop} {n : Nat} {news : List (Addr × Obj)} (g : Nat → Int)
    (elem : ∀ i t I oI C oC D ys m₂ h tk (E' : Value → Shared → Prop), i < n → NsObj oC m₂ → m₂ x = some (.int (i : Int) t) → Fr h₀ L h m → News h₀ L h ((I, oI) :: (C, oC) :: (D, lst ys) :: news) →
      wpAny (model prog w) A (eval elt (compEnvC scope cl C env)) (EltIs h₀ L m s ((I, oI) :: (C, oC) :: (D, lst ys) :: news) (g i)) E' { s with heap := h, toks := tk })
    (fin : ∀ ys, IntsAre ys ((List.range n).map g) → Fin ys news) :
    CompRest prog w A h₀ L m env elt x scope cl s (fun _ => True) (fun i v => ∃ t, v = .int (0 + (i : Int)) t) Fin n 0 [] news := by
  have key : ∀ (k i : Nat) (ys : List Value), i + k = n → IntsAre ys ((List.range i).map g) → CompRest prog w A h₀ L m env elt x scope cl s (fun _ => True) (fun i v => ∃ t, v = .int (0 + (i : Int)) t) Fin k i ys news := by
    intro k
    induction k with
    | zero =>
      intro i ys hk hy
      refine CompRest.zero (fin ys ?_)
      rw [show i = n by lia] at hy
      exact hy
    | succ k ih =>
      intro i ys hk hy
      refine CompRest.succ ?_
      intro v I oI C oC D m₂ h tk E' hP hC hx F N off ne
      obtain ⟨t, hv⟩ := hP
      have hv : v = .int (i : Int) t := by rw [hv, Int.zero_add]
      subst hv
      refine wpAny_mono (elem i t I oI C oC D ys m₂ h tk E' (by lia) hC hx F N) (fun y s₂ hq => ?_) fun _ _ e => e
      obtain ⟨t', h', tk', rfl, rfl, F', N'⟩ := hq
      refine compEnd_same (s₁ := { s with heap := h, toks := tk }) F' N' off trivial (ih (i + 1) (ys ++ [.int (g i) t']) (by lia) ?_)
      rw [List.range_succ, List.map_append]
      exact hy.append (.cons _ _ .nil)
  exact key n 0 [] (by lia) .nil
/-- an element that makes a list of ints -/
def EltMade (h₀ : Heap) (L : Addr) (m : Str → Option Value) (s : Shared) (all : List (Addr × Obj)) (xs : List Int) (y : Value) (s₂ : Shared) : Prop :=
  ∃ D vs k h' tk', y = .ref D ∧ s₂ = { s with heap := h', toks := tk' } ∧ Fr h₀ L h' m ∧ News h₀ L h' ((D, listOf vs.toArray k) :: all) ∧ IntsAre vs xs ∧ ∀ p ∈ all, p.1 ≠ D
theorem compRest_made {elt : PySem.Expr} {x : Str} {scope : Scope} {cl : List (Str × Addr)} {Fin : List Value → List (Addr × Obj) → Prop} {n : Nat} {news : List (Addr × Obj)} (g : Nat → List Int)
    (elem : ∀ i t I oI C oC D ys m₂ h tk nw (E' : Value → Shared → Prop), i < n → (∀ p ∈ news, p ∈ nw) → NsObj oC m₂ → m₂ x = some (.int (i : Int) t) → Fr h₀ L h m → News h₀ L h ((I, oI) :: (C, oC) :: (D, lst ys) :: nw) →
      wpAny (model prog w) A (eval elt (compEnvC scope cl C env)) (EltMade h₀ L m s ((I, oI) :: (C, oC) :: (D, lst ys) :: nw) (g i)) E' { s with heap := h, toks := tk })
    (fin : ∀ ys nw, ys.length = n → (∀ p ∈ news, p ∈ nw) → (∀ j, j < n → ∃ D vs k, ys[j]? = some (.ref D) ∧ (D, listOf vs.toArray k) ∈ nw ∧ IntsAre vs (g j)) → Fin ys nw) :
    CompRest prog w A h₀ L m env elt x scope cl s (fun _ => True) (fun i v => ∃ t, v = .int (0 + (i : Int)) t) Fin n 0 [] news := by
  have key : ∀ (k i : Nat) (ys : List Value) (nw : List (Addr × Obj)), i + k = n → ys.length = i → (∀ p ∈ news, p ∈ nw) → (∀ j, j < i → ∃ D vs k, ys[j]? = some (.ref D) ∧ (D, listOf vs.toArray k) ∈ nw ∧ IntsAre vs (g j)) →
      CompRest prog w A h₀ L m env elt x scope cl s (fun _ => True) (fun i v => ∃ t, v = .int (0 + (i : Int)) t) Fin k i ys nw := by
    intro k
    induction k with
    | zero =>
      intro i ys nw hk hl hs hy
      have e : i = n := by lia
      subst e
      exact CompRest.zero (fin ys nw hl hs hy)
    | succ k ih =>
      intro i ys nw hk hl hs hy
      refine CompRest.succ ?_
      intro v I oI C oC D m₂ h tk E' hP hC hx F N off ne
      obtain ⟨t, hv⟩ := hP
      have hv : v = .int (i : Int) t := by rw [hv, Int.zero_add]
      subst hv
      refine wpAny_mono (elem i t I oI C oC D ys m₂ h tk nw E' (by lia) hs hC hx F N) (fun y s₂ hq => ?_) fun _ _ e => e
      obtain ⟨W, vs, k', h', tk', rfl, rfl, F', N', hi, hne⟩ := hq
      refine CompEnd.intro (s₁ := { s with heap := h, toks := tk }) F' N' ((W, listOf vs.toArray k') :: nw) (fun p hp => ?_) ⟨⟨(hne _ (.head _)).symm, (hne _ (.tail _ (.head _))).symm, (hne _ (.tail _ (.tail _ (.head _)))).symm⟩, off⟩ trivial (ih (i + 1) (ys ++ [.ref W]) _ (by lia) (by simp [hl]) (fun p hp => .tail _ (hs p hp)) ?_)
      · rcases List.mem_cons.mp hp with e | hp
        · rw [e]; exact .tail _ (.head _)
        · rcases List.mem_cons.mp hp with e | hp
          · rw [e]; exact .tail _ (.tail _ (.head _))
          · rcases List.mem_cons.mp hp with e | hp
            · rw [e]; exact .tail _ (.tail _ (.tail _ (.head _)))
            · rcases List.mem_cons.mp hp with e | hp
              · rw [e]; exact .head _
              · exact .tail _ (.tail _ (.tail _ (.tail _ hp)))
      · intro j hj
        rcases Nat.lt_or_ge j i with h1 | h1
        · obtain ⟨D', vs', k'', e1, e2, e3⟩ := hy j h1
          exact ⟨D', vs', k'', by rw [List.getElem?_append_left (by lia)]; exact e1, .tail _ e2, e3⟩
        · have e : j = i := by lia
          subst e
          exact ⟨W, vs, k', by rw [List.getElem?_append_right (by lia), hl]; simp, .head _, hi⟩
  exact key n 0 [] news (by lia) rfl (fun _ h => h) (fun j hj => absurd hj (Nat.not_lt_zero _))
theorem eltMade {all : List (Addr × Obj)} {xs : List Int} {D : Addr} {vs : List Value} {k : Nat} {h' : Heap} {tk' : Nat} (F : Fr h₀ L h' m) (N : News h₀ L h' ((D, listOf vs.toArray k) :: all)) (hi : IntsAre vs xs) (hne : ∀ p ∈ all, p.1 ≠ D) :
    EltMade h₀ L m s all xs (.ref D) { s with heap := h', toks := tk' } := ⟨D, vs, k, h', tk', rfl, rfl, F, N, hi, hne⟩
end
end Mine
end
/-! Loop2 -/
section
open PySem PySem.W PyProof.Rows
set_option maxRecDepth 100000
set_option maxHeartbeats 1000000
namespace Mine
abbrev tupOf (its : Array Value) (k : Nat) : Obj := { cls := .type "tuple", data := .seq its k }
section
variable {prog : Program} {w : World} {A : Around} {E : Value → Shared → Prop} {s : Shared} {env : Env} {h₀ : Heap} {x : Str} {body : List Stmt} {Q : Flow → Shared → Prop}
/-- a loop over a tuple of the ledger -/
theorem tuple_loop {l : Addr} {vs : List Value} {nn : Nat} {m₀ : Str → Option Value} {news : List (Addr × Obj)} (J : Nat → (Str → Option Value) → List (Addr × Obj) → Prop)
    (hh : A.handled = none) (hl : (l, tupOf vs.toArray nn) ∈ news) (F : Fr h₀ env.locals s.heap m₀) (N : News h₀ env.locals s.heap news) (hj : J 0 m₀ news)
    (turn : ∀ i v m₁ news₁ h tk own, vs[i]? = some v → OwnOff own (news₁.map (·.1)) → (l, tupOf vs.toArray nn) ∈ news₁ → J i m₁ news₁ → Fr h₀ env.locals h (fun y => if y = x then some v else m₁ y) → News h₀ env.locals h (news₁ ++ own) →
      wpAny (model prog w) A (execs body env) (InvPostG h₀ env.locals (fun m' nx => (l, tupOf vs.toArray nn) ∈ nx ∧ J (i + 1) m' nx) own { s with heap := h, toks := tk } Q) E { s with heap := h, toks := tk })
    (done : ∀ m₁ news₁ h tk, J vs.length m₁ news₁ → Fr h₀ env.locals h m₁ → News h₀ env.locals h news₁ → Q .next { s with heap := h, toks := tk }) :
    wpAny (model prog w) A (pyIter (.ref l)) (fun it s₂ => LoopAtV prog w A h₀ env x body Q E it s₂) E s := by
  have hol : s.heap.get? l = some (tupOf vs.toArray nn) := (N _ hl).1
  have hls : s.heap.IsTuple l vs.toArray := ⟨_, hol, rfl, nn, rfl⟩
  have hne : l ≠ s.heap.objs.size := Nat.ne_of_lt (Heap.lt_size hol)
  refine wpAny_pyIter_tuple hls ?_
  have W := Walks.tuple (prog := prog) (w := w) hh s.heap.objs.size l hne vs.toArray
  have hlen : vs.toArray.size = vs.length := by simp
  rw [hlen] at W
  refine ⟨_, _, _, vs.length, _, _, m₀, news, (fun i m nx => (l, tupOf vs.toArray nn) ∈ nx ∧ J i m nx), rfl, W, ?_, ?_, ?_, ⟨⟨_, Heap.get?_push_size _ rfl, rfl, rfl⟩, hls.at fun o e => Heap.get?_push_of_some _ e⟩, F.push _, (fun p hp => ⟨Heap.get?_push_of_some _ (N p hp).1, (N p hp).2⟩), ⟨hl, hj⟩, ?_, ?_⟩
  · intro hm
    rcases List.mem_cons.mp hm with e | hm
    · exact absurd F.ns.lt (e ▸ Nat.lt_irrefl _)
    · exact (N _ hl).2.1 ((List.mem_singleton.mp hm).symm)
  · intro b hb
    rw [List.mem_singleton.mp hb]
    exact next_is_new F
  · intro p hp hI
    exact absurd (Heap.lt_size (N p hp).1) ((List.mem_singleton.mp hI) ▸ Nat.lt_irrefl _)
  · rintro i v m₁ news₁ s₁ own ⟨hh', tk', rfl⟩ hin hP ⟨hl₁, hJ⟩ hoff hown hget hfp hst F₁ N₁
    have hP' : vs[i]? = some v := by simpa using hP
    have hI0 : h₀.get? s.heap.objs.size = none := next_is_new F
    obtain ⟨⟨oI, hoI, _⟩, _⟩ := id hst
    have hIown : (s.heap.objs.size, oI) ∈ own.filter fun p => decide (p.1 = s.heap.objs.size) := List.mem_filter.mpr ⟨hfp _ (List.mem_cons.mpr (.inl rfl)) hI0 _ hoI, by simp⟩
    have hsep : OwnOff (own.filter fun p => decide (p.1 = s.heap.objs.size)) (news₁.map (·.1)) := by
      intro p hp b hb e
      obtain ⟨q, hq, rfl⟩ := List.mem_map.mp hb
      have h1 : p.1 = s.heap.objs.size := by simpa using (List.mem_filter.mp hp).2
      exact hoff q hq (List.mem_singleton.mpr (e ▸ h1))
    have N₂ : News h₀ env.locals hh' (news₁ ++ own.filter fun p => decide (p.1 = s.heap.objs.size)) := fun p hp => N₁ p ((List.mem_append.mp hp).elim (fun h => List.mem_append.mpr (.inr h)) fun h => List.mem_append.mpr (.inl ((List.mem_filter.mp h).1)))
    have hlo : hh'.get? l = some (tupOf vs.toArray nn) := (N₁ _ (List.mem_append.mpr (.inr hl₁))).1
    refine wpAny_mono (turn i v m₁ news₁ hh' tk' _ hP' hsep hl₁ hJ F₁ N₂) (fun f s₂ p => ?_) fun _ _ e => e
    have fin : InvEndG h₀ env.locals (fun m' nx => (l, tupOf vs.toArray nn) ∈ nx ∧ J (i + 1) m' nx) (own.filter fun p => decide (p.1 = s.heap.objs.size)) { s with heap := hh', toks := tk' } s₂ →
        LoopStepU h₀ env.locals [s.heap.objs.size] own (fun m nx => (l, tupOf vs.toArray nn) ∈ nx ∧ J (i + 1) m nx) { s with heap := hh', toks := tk' } .next s₂ := by
      rintro ⟨h', tk, m', news', nx, e, F', N', hn, ho, ha, hm⟩
      refine ⟨rfl, h', tk, m', nx, e, F', fun p hp => ?_, fun p hp hq => ?_, hm⟩
      · rcases List.mem_append.mp hp with h | h
        · by_cases hI : p.1 = s.heap.objs.size
          · exact N' p (ho p (List.mem_filter.mpr ⟨h, by simpa using hI⟩))
          · have h1 : p.1 = l := by
              rcases List.mem_cons.mp (hown p h) with h2 | h2
              · exact absurd h2 hI
              · exact List.mem_singleton.mp h2
            have h2 : hh'.get? p.1 = some p.2 := hget p h
            rw [h1, hlo] at h2
            have h3 : p = (l, tupOf vs.toArray nn) := Prod.ext h1 (Option.some.inj h2).symm
            rw [h3]
            exact N' _ (hn _ hm.1)
        · exact N' p (hn p h)
      · exact ha _ hIown p.1 (List.mem_map.mpr ⟨p, hp, rfl⟩) (List.mem_singleton.mp hq).symm
    cases f with
    | ret v => exact .ret p
    | brk => exact .brk p
    | next => exact .next (fin p)
    | cont => exact .cont (fin p)
  · rintro h' tk m' news' F' N' _ ⟨_, hJ⟩
    exact done m' news' h' tk hJ F' N'
end
/-- two maps that agree but for some names -/
def Agree (xs : List Str) (m m₀ : Str → Option Value) : Prop := ∀ z, z ∉ xs → m z = m₀ z
theorem Agree.refl {xs : List Str} {m : Str → Option Value} : Agree xs m m := fun _ _ => rfl
theorem Agree.put {xs : List Str} {m m₀ : Str → Option Value} {x : Str} {o : Option Value} (h : Agree xs m m₀) (hx : x ∈ xs) : Agree xs (fun y => if y = x then o else m y) m₀ := fun z hz => by
  show (if z = x then o else m z) = m₀ z
  rw [if_neg (fun (e : z = x) => hz (by rw [e]; exact hx))]; exact h z hz
theorem Agree.sub {xs ys : List Str} {m m₀ : Str → Option Value} (h : Agree xs m m₀) (hs : ∀ z ∈ xs, z ∈ ys) : Agree ys m m₀ := fun z hz => h z fun e => hz (hs z e)
theorem Agree.trans {xs : List Str} {m m₁ m₂ : Str → Option Value} (h : Agree xs m m₁) (k : Agree xs m₁ m₂) : Agree xs m m₂ := fun z hz => (h z hz).trans (k z hz)
theorem Agree.at {xs : List Str} {m m₀ : Str → Option Value} {z : Str} {v : Option Value} (h : Agree xs m m₀) (hz : z ∉ xs) (e : m₀ z = v) : m z = v := (h z hz).trans e
end Mine
end
/-! Plain -/
section
open PySem
set_option maxRecDepth 100000
set_option maxHeartbeats 1000000
namespace Mine
abbrev Tri (α : Type) := α × α × α
def rotP {α : Type} (t : Int) (P : Tri α) : Tri α := if t = 0 then P else if t = 1 then (P.2.2, P.1, P.2.1) else (P.2.1, P.2.2, P.1)
def act {α : Type} (y : Int) (P : Tri α) (n : Int) : Tri α := if 3 ≤ n then rotP (n - 3) P else if Builtin.bitAnd (y.fdiv (2 ^ n.toNat)) 1 ≠ 0 then (P.1, P.2.2, P.2.1) else P
def actAll {α : Type} (y : Int) (P : Tri α) (ws : List Int) : Tri α := ws.foldl (act y) P
/-- the place in the triple -/
def pick {α : Type} (P : Tri α) (k : Int) : α := if k = 0 then P.1 else if k = 1 then P.2.1 else P.2.2
def rotG {α : Type} (g : Int) (P : Tri α) : Tri α := (pick P ((0 - g).fmod 3), pick P ((1 - g).fmod 3), pick P ((2 - g).fmod 3))
theorem fm3 (a : Int) : a.fmod 3 = a % 3 := Int.fmod_eq_emod_of_nonneg a (by decide)
theorem rotG_zero {α : Type} (P : Tri α) : rotG 0 P = P := rfl
theorem rotG_mod {α : Type} (g : Int) (P : Tri α) : rotG g P = rotG (g % 3) P := by
  have e : ∀ k : Int, (k - g).fmod 3 = (k - g % 3).fmod 3 := fun k => by rw [fm3, fm3]; lia
  unfold rotG
  rw [e 0, e 1, e 2]
theorem rotP_G {α : Type} {t g : Int} (P : Tri α) (h0 : 0 ≤ t) (h2 : t ≤ 2) : rotP t (rotG g P) = rotG (g + t) P := by
  rw [rotG_mod g, rotG_mod (g + t), ← Int.emod_add_emod]
  have hg : g % 3 = 0 ∨ g % 3 = 1 ∨ g % 3 = 2 := by lia
  have ht : t = 0 ∨ t = 1 ∨ t = 2 := by lia
  clear h0 h2
  rcases ht with rfl | rfl | rfl <;> rcases hg with h | h | h <;> rw [h] <;> rfl
/-! the words: a commutator of turns and mirrors -/
def mapT {α β : Type} (f : α → β) (P : Tri α) : Tri β := (f P.1, f P.2.1, f P.2.2)
theorem act_map {α β : Type} (f : α → β) (y : Int) (P : Tri α) (n : Int) : act y (mapT f P) n = mapT f (act y P n) := by
  unfold act
  split
  · unfold rotP; split
    · rfl
    · split <;> rfl
  · split <;> rfl
theorem actAll_map {α β : Type} (f : α → β) (y : Int) (ws : List Int) : ∀ P : Tri α, actAll y (mapT f P) ws = mapT f (actAll y P ws) := by
  induction ws with
  | nil => intro P; rfl
  | cons n r ih => intro P; unfold actAll at ih ⊢; rw [List.foldl_cons, List.foldl_cons, act_map, ih]
theorem words_fin : ∀ c : Fin 8, ∀ y : Fin 8, ∀ s : Fin 3, actAll (y.1 : Int) ((0, 1, 2) : Tri Nat) (wdAll (c.1 : Int) 3 [3 + (s.1 : Int)]) = if Builtin.bitAnd (c.1 : Int) (y.1 : Int) = (c.1 : Int) then rotP (s.1 : Int) (0, 1, 2) else (0, 1, 2) := by
  decide +kernel
theorem word_acts {α : Type} {c y s : Int} (hc : 0 ≤ c) (hc7 : c ≤ 7) (hy : 0 ≤ y) (hy7 : y ≤ 7) (hs : 0 ≤ s) (hs2 : s ≤ 2) (P : Tri α) :
    actAll y P (wdAll c 3 [3 + s]) = if Builtin.bitAnd c y = c then rotP s P else P := by
  obtain ⟨c', rfl⟩ := Int.eq_ofNat_of_zero_le hc
  obtain ⟨y', rfl⟩ := Int.eq_ofNat_of_zero_le hy
  obtain ⟨s', rfl⟩ := Int.eq_ofNat_of_zero_le hs
  have h := words_fin ⟨c', by lia⟩ ⟨y', by lia⟩ ⟨s', by lia⟩
  dsimp only at h
  have hP : P = mapT (fun k : Nat => if k = 0 then P.1 else if k = 1 then P.2.1 else P.2.2) (0, 1, 2) := rfl
  rw [hP, actAll_map, h]
  split
  · unfold rotP; split
    · rfl
    · split <;> rfl
  · rfl
/-! the shares: their sum over the smaller sets is the table -/
def goneS (y : Int) (S : List Int) : Nat → Int
  | 0 => 0
  | k + 1 => goneS y S k + (if Builtin.bitAnd (k : Int) y = (k : Int) then S.getD k 0 else 0)
theorem shAll_is (t0 t1 t2 t3 t4 t5 t6 t7 : Int) : shAll 3 [t0, t1, t2, t3, t4, t5, t6, t7] =
    [t0, (t1 - t0).fmod 3, (t2 - t0).fmod 3, ((t3 - t2).fmod 3 - (t1 - t0).fmod 3).fmod 3, (t4 - t0).fmod 3, ((t5 - t4).fmod 3 - (t1 - t0).fmod 3).fmod 3,
      ((t6 - t4).fmod 3 - (t2 - t0).fmod 3).fmod 3, (((t7 - t6).fmod 3 - (t5 - t4).fmod 3).fmod 3 - ((t3 - t2).fmod 3 - (t1 - t0).fmod 3).fmod 3).fmod 3] := by
  rfl
theorem gone_8 (y : Fin 8) (s0 s1 s2 s3 s4 s5 s6 s7 : Int) : goneS (y.1 : Int) [s0, s1, s2, s3, s4, s5, s6, s7] 8 =
    s0 + (if Builtin.bitAnd 1 (y.1 : Int) = 1 then s1 else 0) + (if Builtin.bitAnd 2 (y.1 : Int) = 2 then s2 else 0) + (if Builtin.bitAnd 3 (y.1 : Int) = 3 then s3 else 0) + (if Builtin.bitAnd 4 (y.1 : Int) = 4 then s4 else 0)
      + (if Builtin.bitAnd 5 (y.1 : Int) = 5 then s5 else 0) + (if Builtin.bitAnd 6 (y.1 : Int) = 6 then s6 else 0) + (if Builtin.bitAnd 7 (y.1 : Int) = 7 then s7 else 0) := by
  have h : Builtin.bitAnd ((0 : Nat) : Int) (y.1 : Int) = ((0 : Nat) : Int) := by revert y; decide +kernel
  unfold goneS goneS goneS goneS goneS goneS goneS goneS goneS
  rw [if_pos h]
  simp only [Int.zero_add]
  rfl
theorem list8 {xs : List Int} (h : xs.length = 8) : ∃ a b c d e f g k, xs = [a, b, c, d, e, f, g, k] := by
  match xs, h with
  | [a, b, c, d, e, f, g, k], _ => exact ⟨a, b, c, d, e, f, g, k, rfl⟩
theorem off3 (x : Int) : ∃ q, x % 3 = x - 3 * q := ⟨x / 3, by lia⟩
theorem m3b (x : Int) : 0 ≤ x.fmod 3 ∧ x.fmod 3 ≤ 2 := by rw [fm3]; lia
theorem gone_end {ts : List Int} {y : Int} (hl : ts.length = 8) (hy : 0 ≤ y) (hy7 : y ≤ 7) (ht : ∀ t ∈ ts, 0 ≤ t ∧ t ≤ 2) : (goneS y (shAll 3 ts) 8).fmod 3 = ts.getD y.toNat 0 := by
  obtain ⟨t0, t1, t2, t3, t4, t5, t6, t7, rfl⟩ := list8 hl
  simp only [List.mem_cons, List.not_mem_nil, or_false, forall_eq_or_imp, forall_eq] at ht
  obtain ⟨h0, h1, h2, h3, h4, h5, h6, h7⟩ := ht
  obtain ⟨y', rfl⟩ := Int.eq_ofNat_of_zero_le hy
  have e := gone_8 ⟨y', by lia⟩ t0 ((t1 - t0).fmod 3) ((t2 - t0).fmod 3) (((t3 - t2).fmod 3 - (t1 - t0).fmod 3).fmod 3) ((t4 - t0).fmod 3) (((t5 - t4).fmod 3 - (t1 - t0).fmod 3).fmod 3)
    (((t6 - t4).fmod 3 - (t2 - t0).fmod 3).fmod 3) ((((t7 - t6).fmod 3 - (t5 - t4).fmod 3).fmod 3 - ((t3 - t2).fmod 3 - (t1 - t0).fmod 3).fmod 3).fmod 3)
  rw [shAll_is]
  dsimp only at e
  rw [e]
  simp only [fm3]
  have hc : y' = 0 ∨ y' = 1 ∨ y' = 2 ∨ y' = 3 ∨ y' = 4 ∨ y' = 5 ∨ y' = 6 ∨ y' = 7 := by lia
  clear e
  obtain ⟨q1, e1⟩ := off3 (t1 - t0)
  obtain ⟨q2, e2⟩ := off3 (t2 - t0)
  obtain ⟨q4, e4⟩ := off3 (t4 - t0)
  obtain ⟨q32, e32⟩ := off3 (t3 - t2)
  obtain ⟨q54, e54⟩ := off3 (t5 - t4)
  obtain ⟨q64, e64⟩ := off3 (t6 - t4)
  obtain ⟨q76, e76⟩ := off3 (t7 - t6)
  rw [e1, e2, e4, e32, e54, e64, e76]
  obtain ⟨q3, e3⟩ := off3 (t3 - t2 - 3 * q32 - (t1 - t0 - 3 * q1))
  obtain ⟨q5, e5⟩ := off3 (t5 - t4 - 3 * q54 - (t1 - t0 - 3 * q1))
  obtain ⟨q6, e6⟩ := off3 (t6 - t4 - 3 * q64 - (t2 - t0 - 3 * q2))
  obtain ⟨q75, e75⟩ := off3 (t7 - t6 - 3 * q76 - (t5 - t4 - 3 * q54))
  rw [e3, e5, e6, e75]
  obtain ⟨q7, e7⟩ := off3 (t7 - t6 - 3 * q76 - (t5 - t4 - 3 * q54) - 3 * q75 - (t3 - t2 - 3 * q32 - (t1 - t0 - 3 * q1) - 3 * q3))
  rw [e7]
  clear e1 e2 e4 e32 e54 e64 e76 e3 e5 e6 e75 e7
  rcases hc with rfl | rfl | rfl | rfl | rfl | rfl | rfl | rfl
  · show (t0 + 0 + 0 + 0 + 0 + 0 + 0 + 0) % 3 = t0; lia
  · show (t0 + (t1 - t0 - 3 * q1) + 0 + 0 + 0 + 0 + 0 + 0) % 3 = t1; lia
  · show (t0 + 0 + (t2 - t0 - 3 * q2) + 0 + 0 + 0 + 0 + 0) % 3 = t2; lia
  · show (t0 + (t1 - t0 - 3 * q1) + (t2 - t0 - 3 * q2) + (t3 - t2 - 3 * q32 - (t1 - t0 - 3 * q1) - 3 * q3) + 0 + 0 + 0 + 0) % 3 = t3; lia
  · show (t0 + 0 + 0 + 0 + (t4 - t0 - 3 * q4) + 0 + 0 + 0) % 3 = t4; lia
  · show (t0 + (t1 - t0 - 3 * q1) + 0 + 0 + (t4 - t0 - 3 * q4) + (t5 - t4 - 3 * q54 - (t1 - t0 - 3 * q1) - 3 * q5) + 0 + 0) % 3 = t5; lia
  · show (t0 + 0 + (t2 - t0 - 3 * q2) + 0 + (t4 - t0 - 3 * q4) + 0 + (t6 - t4 - 3 * q64 - (t2 - t0 - 3 * q2) - 3 * q6) + 0) % 3 = t6; lia
  · show (t0 + (t1 - t0 - 3 * q1) + (t2 - t0 - 3 * q2) + (t3 - t2 - 3 * q32 - (t1 - t0 - 3 * q1) - 3 * q3) + (t4 - t0 - 3 * q4) + (t5 - t4 - 3 * q54 - (t1 - t0 - 3 * q1) - 3 * q5) + (t6 - t4 - 3 * q64 - (t2 - t0 - 3 * q2) - 3 * q6) + (t7 - t6 - 3 * q76 - (t5 - t4 - 3 * q54) - 3 * q75 - (t3 - t2 - 3 * q32 - (t1 - t0 - 3 * q1) - 3 * q3) - 3 * q7)) % 3 = t7; lia
theorem shares_in {ts : List Int} (hl : ts.length = 8) (ht : ∀ t ∈ ts, 0 ≤ t ∧ t ≤ 2) (k : Nat) : 0 ≤ (shAll 3 ts).getD k 0 ∧ (shAll 3 ts).getD k 0 ≤ 2 := by
  obtain ⟨t0, t1, t2, t3, t4, t5, t6, t7, rfl⟩ := list8 hl
  simp only [List.mem_cons, List.not_mem_nil, or_false, forall_eq_or_imp, forall_eq] at ht
  obtain ⟨h0, h1, h2, h3, h4, h5, h6, h7⟩ := ht
  rw [shAll_is]
  match k with
  | 0 => exact h0
  | 1 => exact m3b _
  | 2 => exact m3b _
  | 3 => exact m3b _
  | 4 => exact m3b _
  | 5 => exact m3b _
  | 6 => exact m3b _
  | 7 => exact m3b _
  | n + 8 => show 0 ≤ (0 : Int) ∧ (0 : Int) ≤ 2; lia
/-! what stands in a word -/
def Fits (x : Int) : Prop := 0 ≤ x ∧ x ≤ 5
theorem backF_fits {x : Int} (h : Fits x) : Fits (backF x) := by
  unfold Fits backF at *
  rw [fm3]
  split <;> lia
theorem wdAll_fits {c s : Int} (hs : 0 ≤ s) (hs2 : s ≤ 2) (k : Nat) (hk : k ≤ 3) : ∀ x ∈ wdAll c k [3 + s], Fits x := by
  induction k with
  | zero => intro x hx; rw [show wdAll c 0 [3 + s] = [3 + s] from rfl] at hx; rw [List.mem_singleton.mp hx]; unfold Fits; lia
  | succ k ih =>
    intro x hx
    have ih := ih (by lia)
    rw [wdAll_succ] at hx
    unfold wdStep at hx
    split at hx
    · simp only [List.append_assoc, List.cons_append, List.nil_append, List.mem_cons, List.mem_append, List.mem_map, List.mem_reverse] at hx
      rcases hx with h | h | h | ⟨a, ha, h⟩
      · rw [h]; unfold Fits; lia
      · exact ih x h
      · rw [h]; unfold Fits; lia
      · rw [← h]; exact backF_fits (ih a ha)
    · exact ih x hx
end Mine
end
/-! FB -/
section
open PySem PySem.Float64
namespace Mine
/-! floats as rationals: rv x is the value; each operation's error is at most one place of a grid -/
def IsFin (x : UInt64) : Prop := ∃ a m e, decode x = .fin a m e
theorem V_rep : ∀ (k n : Nat), n ≤ 2 ^ 53 → ∃ t, V t = n * 2 ^ k
  | 0, n, h => ⟨0 * 2 ^ 52 + n, V_at h (.inr rfl)⟩
  | k + 1, n, h => by
    by_cases h52 : 2 ^ 52 ≤ n
    · exact ⟨(k + 1) * 2 ^ 52 + n, V_at h (.inl h52)⟩
    · obtain ⟨t, ht⟩ := V_rep k (2 * n) (by lia)
      refine ⟨t, ?_⟩
      rw [ht, Nat.pow_succ, Nat.mul_comm 2 n, Nat.mul_assoc, Nat.mul_comm 2]
theorem right_near {r : UInt64} {neg : Bool} {W D : Nat} (k : Nat) (h : Right r neg W D) (hD : 0 < D) (hk : k ≤ 1500) (hW : W ≤ D * (2 ^ 53 * 2 ^ k)) :
    ∃ t, r = pack neg t ∧ t < infMag ∧ dist W (D * V t) ≤ D * 2 ^ k ∧ ∀ n j, n ≤ 2 ^ 53 → W = D * (n * 2 ^ j) → V t = n * 2 ^ j := by
  obtain ⟨t, hr, hle, hov, hn⟩ := h
  have hlt : t < infMag := by
    rcases Nat.lt_or_eq_of_le hle with h | h
    · exact h
    · exfalso
      have h1 := hov.mp h
      have e : (2 : Nat) ^ 2045 = 2 ^ (2045 - k) * 2 ^ k := by rw [← Nat.pow_add]; congr 1; lia
      have h2 : (2 : Nat) ^ 1 ≤ 2 ^ (2045 - k) := Nat.pow_le_pow_right (by decide) (by lia)
      have h3 : 0 < (2 : Nat) ^ k := Nat.two_pow_pos k
      rw [e] at h1
      generalize (2 : Nat) ^ (2045 - k) = a at *
      generalize (2 : Nat) ^ k = b at *
      have h4 : 2 * b ≤ a * b := Nat.mul_le_mul_right b h2
      have h5 : D * ((2 ^ 54 - 1) * (2 * b)) ≤ D * ((2 ^ 54 - 1) * (a * b)) := Nat.mul_le_mul_left D (Nat.mul_le_mul_left _ h4)
      have h6 : D * ((2 ^ 54 - 1) * (2 * b)) = (2 ^ 55 - 2) * (D * b) := by
        rw [Nat.mul_left_comm, show (2 : Nat) * b = b * 2 from Nat.mul_comm _ _, ← Nat.mul_assoc D b 2, Nat.mul_comm (D * b) 2, ← Nat.mul_assoc]
      have h7 : D * (2 ^ 53 * b) = 2 ^ 53 * (D * b) := Nat.mul_left_comm _ _ _
      rw [h7] at hW
      rw [h6] at h5
      have h8 : 0 < D * b := Nat.mul_pos hD h3
      generalize D * b = z at *
      lia
  refine ⟨t, hr, hlt, ?_, ?_⟩
  · have hb : 0 < D * 2 ^ k := Nat.mul_pos hD (Nat.two_pow_pos k)
    have hq : W / (D * 2 ^ k) ≤ 2 ^ 53 := by
      refine Nat.div_le_of_le_mul ?_
      rw [Nat.mul_assoc, Nat.mul_comm (2 ^ k)]
      exact hW
    obtain ⟨t', ht'⟩ := V_rep k _ hq
    refine Nat.le_trans (hn hlt t').1 ?_
    rw [ht']
    have e1 : D * (W / (D * 2 ^ k) * 2 ^ k) = (D * 2 ^ k) * (W / (D * 2 ^ k)) := by ac_rfl
    rw [e1]
    have h1 := Nat.div_add_mod W (D * 2 ^ k)
    have h2 := Nat.mod_lt W hb
    unfold dist
    lia
  · intro n j hnj he
    obtain ⟨t', ht'⟩ := V_rep j n hnj
    have h1 := (hn hlt t').1
    rw [ht', ← he] at h1
    have h2 : dist W W = 0 := by unfold dist; lia
    rw [h2] at h1
    have h3 : W = D * V t := by unfold dist at h1; lia
    rw [he] at h3
    exact (Nat.eq_of_mul_eq_mul_left hD h3).symm
theorem pack_fin {neg : Bool} {t : Nat} (h : t < infMag) : IsFin (pack neg t) := by
  obtain ⟨m, e, hd, _⟩ := decode_pack neg h
  exact ⟨_, _, _, hd⟩
theorem sgn_nat (neg : Bool) (m : Nat) : sgn neg m = (if neg then -1 else 1) * (m : Int) := by unfold sgn; cases neg <;> simp
theorem sgn_dist {neg : Bool} {W V E : Nat} (h : dist W V ≤ E) : sgn neg V - sgn neg W ≤ (E : Int) ∧ sgn neg W - sgn neg V ≤ (E : Int) := by
  unfold dist at h; unfold sgn; cases neg <;> simp <;> lia
theorem zero_fin (b : Bool) : IsFin (zero b) ∧ val (zero b) = 0 := by
  refine ⟨pack_fin (by decide), ?_⟩
  show val (pack b 0) = 0
  rw [val_pack b (by decide), V_zero]; cases b <;> rfl
theorem natAbs_sgn (i : Int) : sgn (decide (i < 0)) i.natAbs = i := by
  unfold sgn
  by_cases h : i < 0
  · rw [decide_eq_true h]; simp; lia
  · rw [decide_eq_false h]; simp; lia
/-- the sum -/
theorem add_int {x y : UInt64} (k : Nat) (hk : k ≤ 1500) (hx : IsFin x) (hy : IsFin y) (hW : (val x + val y).natAbs ≤ 2 ^ 53 * 2 ^ k) :
    IsFin (add x y) ∧ val (add x y) - (val x + val y) ≤ ((2 ^ k : Nat) : Int) ∧ (val x + val y) - val (add x y) ≤ ((2 ^ k : Nat) : Int) ∧
      (0 ≤ val x + val y → 0 ≤ val (add x y)) ∧ (val x + val y ≤ 0 → val (add x y) ≤ 0) ∧
      ∀ n j, n ≤ 2 ^ 53 → (val x + val y).natAbs = n * 2 ^ j → val (add x y) = val x + val y := by
  obtain ⟨a, m, e, hx⟩ := hx
  obtain ⟨b, n, f, hy⟩ := hy
  obtain ⟨h0, h1⟩ := add_right hx hy
  by_cases hz : val x + val y = 0
  · rw [h0 hz, hz, (zero_fin _).2]
    exact ⟨(zero_fin _).1, by rw [Int.sub_self]; exact Int.natCast_nonneg _, by rw [Int.sub_self]; exact Int.natCast_nonneg _, by simp, by simp, fun _ _ _ _ => rfl⟩
  · obtain ⟨t, hr, ht, hd, hex⟩ := right_near k (h1 hz) (by decide) hk (by rw [Nat.one_mul]; exact hW)
    rw [Nat.one_mul, Nat.one_mul] at hd
    rw [hr, val_pack _ ht]
    have hs := sgn_dist (neg := decide (val x + val y < 0)) hd
    rw [natAbs_sgn] at hs
    refine ⟨pack_fin ht, hs.1, hs.2, fun h => ?_, fun h => ?_, fun n j hn he => ?_⟩
    · rw [decide_eq_false (by lia)]; exact Int.natCast_nonneg _
    · rw [decide_eq_true (by lia)]; show -((V t : Nat) : Int) ≤ 0; lia
    · rw [hex n j hn (by rw [Nat.one_mul]; exact he), ← he, natAbs_sgn]
theorem neg_fin {y : UInt64} (h : IsFin y) : IsFin (neg y) ∧ val (neg y) = -val y := by
  obtain ⟨b, k, f, hy⟩ := h
  exact ⟨⟨_, _, _, neg_decode hy⟩, neg_val hy⟩
theorem sub_int {x y : UInt64} (k : Nat) (hk : k ≤ 1500) (hx : IsFin x) (hy : IsFin y) (hW : (val x - val y).natAbs ≤ 2 ^ 53 * 2 ^ k) :
    IsFin (sub x y) ∧ val (sub x y) - (val x - val y) ≤ ((2 ^ k : Nat) : Int) ∧ (val x - val y) - val (sub x y) ≤ ((2 ^ k : Nat) : Int) ∧
      (0 ≤ val x - val y → 0 ≤ val (sub x y)) ∧ (val x - val y ≤ 0 → val (sub x y) ≤ 0) ∧
      ∀ n j, n ≤ 2 ^ 53 → (val x - val y).natAbs = n * 2 ^ j → val (sub x y) = val x - val y := by
  have h := add_int k hk hx (neg_fin hy).1
  rw [(neg_fin hy).2, ← Int.sub_eq_add_neg] at h
  have e : sub x y = add x (neg y) := by unfold sub; rfl
  rw [e]
  exact h hW
theorem val_sign {x : UInt64} {a : Bool} {m : Nat} {e : Int} (h : decode x = .fin a m e) : val x = sgn a (val x).natAbs := by
  rw [val_natAbs h, val_eq h]
theorem sgn_mul2 (a b : Bool) (m n : Nat) : sgn (a != b) (m * n) = sgn a m * sgn b n := by
  unfold sgn; cases a <;> cases b <;> simp [Int.neg_mul, Int.mul_neg]
theorem mul_int {x y : UInt64} (k : Nat) (hk : k ≤ 1500) (hx : IsFin x) (hy : IsFin y) (hW : (val x).natAbs * (val y).natAbs ≤ 2 ^ 1074 * (2 ^ 53 * 2 ^ k)) :
    IsFin (mul x y) ∧ ((2 ^ 1074 : Nat) : Int) * val (mul x y) - val x * val y ≤ ((2 ^ 1074 * 2 ^ k : Nat) : Int) ∧ val x * val y - ((2 ^ 1074 : Nat) : Int) * val (mul x y) ≤ ((2 ^ 1074 * 2 ^ k : Nat) : Int) ∧
      (0 ≤ val x → 0 ≤ val y → 0 ≤ val (mul x y)) ∧
      ∀ n j, n ≤ 2 ^ 53 → (val x).natAbs * (val y).natAbs = 2 ^ 1074 * (n * 2 ^ j) → ((2 ^ 1074 : Nat) : Int) * val (mul x y) = val x * val y := by
  obtain ⟨a, m, e, hx⟩ := hx
  obtain ⟨b, n, f, hy⟩ := hy
  have hU : 0 < (2 : Nat) ^ 1074 := Nat.two_pow_pos _
  have h := mul_right hx hy
  generalize (2 : Nat) ^ 1074 = U at *
  obtain ⟨t, hr, ht, hd, hex⟩ := right_near k h hU hk hW
  have hs := sgn_dist (neg := a != b) hd
  have e1 : sgn (a != b) ((val x).natAbs * (val y).natAbs) = val x * val y := by rw [sgn_mul2, ← val_sign hx, ← val_sign hy]
  have e2 : sgn (a != b) (U * V t) = (U : Int) * val (mul x y) := by rw [hr, val_pack _ ht, Nat.mul_comm, sgn_mul, Int.mul_comm]
  rw [e1, e2] at hs
  refine ⟨by rw [hr]; exact pack_fin ht, hs.1, hs.2, fun h1 h2 => ?_, fun n j hn he => ?_⟩
  · have h3 : 0 ≤ val x * val y := Int.mul_nonneg h1 h2
    rcases Nat.eq_zero_or_pos ((val x).natAbs * (val y).natAbs) with h0 | h0
    · have := hex 0 0 (by decide) (by rw [h0]; simp)
      rw [hr, val_pack _ ht, this]; unfold sgn; split <;> simp
    · have hx0 : val x ≠ 0 := by intro q; rw [q] at h0; simp at h0
      have hy0 : val y ≠ 0 := by intro q; rw [q] at h0; simp at h0
      have ha : a = false := by
        cases a with
        | false => rfl
        | true => have := val_sign hx; unfold sgn at this; simp at this; lia
      have hb : b = false := by
        cases b with
        | false => rfl
        | true => have := val_sign hy; unfold sgn at this; simp at this; lia
      rw [hr, val_pack _ ht, ha, hb]
      exact Int.natCast_nonneg _
  · rw [← e2, ← e1, he, hex n j hn he]
theorem div_int {x y : UInt64} (k : Nat) (hk : k ≤ 1500) (hx : IsFin x) (hy : IsFin y) (h0 : 0 < val y) (hW : (val x).natAbs * 2 ^ 1074 ≤ (val y).natAbs * (2 ^ 53 * 2 ^ k)) :
    IsFin (div x y) ∧ val y * val (div x y) - val x * ((2 ^ 1074 : Nat) : Int) ≤ val y * ((2 ^ k : Nat) : Int) ∧ val x * ((2 ^ 1074 : Nat) : Int) - val y * val (div x y) ≤ val y * ((2 ^ k : Nat) : Int) ∧
      (0 ≤ val x → 0 ≤ val (div x y)) := by
  obtain ⟨a, m, e, hx⟩ := hx
  obtain ⟨b, n, f, hy⟩ := hy
  have hb : b = false := by
    cases b with
    | false => rfl
    | true => have := val_sign hy; unfold sgn at this; simp at this; lia
  have hn : n ≠ 0 := by intro q; rw [val_eq hy, q] at h0; unfold sgn at h0; split at h0 <;> simp at h0
  have h := div_right hx hy hn
  have hU : 0 < (2 : Nat) ^ 1074 := Nat.two_pow_pos _
  generalize (2 : Nat) ^ 1074 = U at *
  have hyp : 0 < (val y).natAbs := by lia
  obtain ⟨t, hr, ht, hd, hex⟩ := right_near k h hyp hk hW
  have hs := sgn_dist (neg := a != b) hd
  have hyn : ((val y).natAbs : Int) = val y := by lia
  have e1 : sgn (a != b) ((val x).natAbs * U) = val x * (U : Int) := by
    rw [hb]
    have : (a != false) = a := by cases a <;> rfl
    rw [this, sgn_mul, ← val_sign hx]
  have e2 : sgn (a != b) ((val y).natAbs * V t) = val y * val (div x y) := by rw [hr, val_pack _ ht, Nat.mul_comm, sgn_mul, hyn, Int.mul_comm]
  rw [e1, e2] at hs
  have e3 : (((val y).natAbs * 2 ^ k : Nat) : Int) = val y * ((2 ^ k : Nat) : Int) := by rw [Int.natCast_mul, hyn]
  rw [e3] at hs
  refine ⟨by rw [hr]; exact pack_fin ht, hs.1, hs.2, fun h1 => ?_⟩
  rcases Nat.eq_zero_or_pos ((val x).natAbs * U) with h2 | h2
  · have := hex 0 0 (by decide) (by rw [h2]; simp)
    rw [hr, val_pack _ ht, this]; unfold sgn; split <;> simp
  · have hx0 : val x ≠ 0 := by intro q; rw [q] at h2; simp at h2
    have ha : a = false := by
      cases a with
      | false => rfl
      | true => have := val_sign hx; unfold sgn at this; simp at this; lia
    rw [hr, val_pack _ ht, ha, hb]
    exact Int.natCast_nonneg _
end Mine
end
/-! FR -/
section
open PySem PySem.Float64
namespace Mine
def UN : Nat := 2 ^ 1074
@[irreducible] def uu : Rat := 1 / (UN : Rat)
theorem UN_pos : (0 : Rat) < (UN : Rat) := by
  have : 0 < UN := Nat.two_pow_pos _
  exact_mod_cast this
theorem UN_uu : (UN : Rat) * uu = 1 := by
  have h := UN_pos
  unfold uu
  generalize (UN : Rat) = u at *
  grind
theorem uu_pos : 0 < uu := by
  have h := UN_pos
  have h2 := UN_uu
  generalize (UN : Rat) = u at *
  generalize uu = v at *
  by_cases h3 : 0 < v
  · exact h3
  · exfalso
    have h5 : v ≤ 0 := by grind
    have h4 : u * v ≤ u * 0 := Rat.mul_le_mul_of_nonneg_left h5 (Std.le_of_lt h)
    grind
def rv (x : UInt64) : Rat := (val x : Rat) * uu
/-- an integer against a whole number of units -/
theorem int_le {i : Int} {N : Nat} (h : (i : Rat) * uu ≤ (N : Rat)) : i ≤ ((N * UN : Nat) : Int) := by
  rcases Int.lt_or_le ((N * UN : Nat) : Int) i with h1 | h1
  · exfalso
    have h2 : ((((N * UN : Nat) : Int)) : Rat) < (i : Rat) := Rat.intCast_lt_intCast.mpr h1
    have h3 : (((N * UN : Nat) : Int) : Rat) = (N : Rat) * (UN : Rat) := by push_cast; rfl
    rw [h3] at h2
    have h4 := Rat.mul_lt_mul_of_pos_right h2 uu_pos
    rw [Rat.mul_assoc, UN_uu, Rat.mul_one] at h4
    grind
  · exact h1
theorem abs_le {i : Int} {N : Nat} (h1 : (i : Rat) * uu ≤ (N : Rat)) (h2 : -(N : Rat) ≤ (i : Rat) * uu) : i.natAbs ≤ N * UN := by
  have a := int_le h1
  have b := int_le (i := -i) (N := N) (by rw [Rat.intCast_neg]; grind)
  omega
theorem scaled {i j : Int} (h : i ≤ j) : (i : Rat) * uu ≤ (j : Rat) * uu :=
  Rat.mul_le_mul_of_nonneg_right (Rat.intCast_le_intCast.mpr h) (Std.le_of_lt uu_pos)
/-- two values that differ by at most a number of units -/
theorem scaled_sub {i j : Int} {E : Nat} (h : i - j ≤ (E : Int)) : (i : Rat) * uu ≤ (j : Rat) * uu + (E : Rat) * uu := by
  have h1 := scaled h
  rw [Rat.intCast_sub] at h1
  have h2 : (((E : Nat) : Int) : Rat) = (E : Rat) := rfl
  rw [h2] at h1
  have h3 : ((i : Rat) - (j : Rat)) * uu = (i : Rat) * uu - (j : Rat) * uu := by grind
  rw [h3] at h1
  grind
section
variable {x y : UInt64} {k N : Nat} {e : Rat}
theorem add_rat (hk : k ≤ 1500) (hN : N * UN ≤ 2 ^ 53 * 2 ^ k) (he : ((2 ^ k : Nat) : Rat) * uu = e) (hx : IsFin x) (hy : IsFin y) (h1 : rv x + rv y ≤ (N : Rat)) (h2 : -(N : Rat) ≤ rv x + rv y) :
    IsFin (add x y) ∧ rv (add x y) ≤ rv x + rv y + e ∧ rv x + rv y ≤ rv (add x y) + e ∧ (0 ≤ rv x + rv y → 0 ≤ rv (add x y)) ∧ (rv x + rv y ≤ 0 → rv (add x y) ≤ 0) := by
  have es : rv x + rv y = ((val x + val y : Int) : Rat) * uu := by unfold rv; rw [Rat.intCast_add]; grind
  rw [es] at h1 h2 ⊢
  obtain ⟨f, a, b, c, d, _⟩ := add_int k hk hx hy (Nat.le_trans (abs_le h1 h2) hN)
  refine ⟨f, ?_, ?_, fun h => ?_, fun h => ?_⟩
  · rw [← he]; exact scaled_sub a
  · rw [← he]; exact scaled_sub b
  · have h3 : 0 ≤ val x + val y := by
      have := int_le (i := -(val x + val y)) (N := 0) (by rw [Rat.intCast_neg]; simp only [Rat.neg_mul]; grind)
      omega
    have h4 := scaled (c h3)
    rw [Rat.intCast_zero] at h4
    unfold rv
    grind
  · have h3 : val x + val y ≤ 0 := by
      have := int_le (i := (val x + val y)) (N := 0) (by grind)
      omega
    have h4 := scaled (d h3)
    rw [Rat.intCast_zero] at h4
    unfold rv
    grind
theorem sub_rat (hk : k ≤ 1500) (hN : N * UN ≤ 2 ^ 53 * 2 ^ k) (he : ((2 ^ k : Nat) : Rat) * uu = e) (hx : IsFin x) (hy : IsFin y) (h1 : rv x - rv y ≤ (N : Rat)) (h2 : -(N : Rat) ≤ rv x - rv y) :
    IsFin (sub x y) ∧ rv (sub x y) ≤ rv x - rv y + e ∧ rv x - rv y ≤ rv (sub x y) + e ∧ (0 ≤ rv x - rv y → 0 ≤ rv (sub x y)) ∧ (rv x - rv y ≤ 0 → rv (sub x y) ≤ 0) := by
  have es : rv x - rv y = ((val x - val y : Int) : Rat) * uu := by unfold rv; rw [Rat.intCast_sub]; grind
  rw [es] at h1 h2 ⊢
  obtain ⟨f, a, b, c, d, _⟩ := sub_int k hk hx hy (Nat.le_trans (abs_le h1 h2) hN)
  refine ⟨f, ?_, ?_, fun h => ?_, fun h => ?_⟩
  · rw [← he]; exact scaled_sub a
  · rw [← he]; exact scaled_sub b
  · have h3 : 0 ≤ val x - val y := by
      have := int_le (i := -(val x - val y)) (N := 0) (by rw [Rat.intCast_neg]; simp only [Rat.neg_mul]; grind)
      omega
    have h4 := scaled (c h3)
    rw [Rat.intCast_zero] at h4
    unfold rv
    grind
  · have h3 : val x - val y ≤ 0 := by
      have := int_le (i := (val x - val y)) (N := 0) (by grind)
      omega
    have h4 := scaled (d h3)
    rw [Rat.intCast_zero] at h4
    unfold rv
    grind
theorem rv_nonneg {x : UInt64} (h : 0 ≤ rv x) : 0 ≤ val x := by
  have := int_le (i := -(val x)) (N := 0) (by rw [Rat.intCast_neg]; simp only [Rat.neg_mul]; unfold rv at h; grind)
  omega
theorem nonneg_rv {x : UInt64} (h : 0 ≤ val x) : 0 ≤ rv x := by
  have h4 := scaled h
  rw [Rat.intCast_zero] at h4
  unfold rv
  grind
theorem int_le2 {i : Int} {N : Nat} (h : (i : Rat) * uu * uu ≤ (N : Rat)) : i ≤ ((N * UN * UN : Nat) : Int) := by
  rcases Int.lt_or_le ((N * UN * UN : Nat) : Int) i with h1 | h1
  · exfalso
    have h2 : ((((N * UN * UN : Nat) : Int)) : Rat) < (i : Rat) := Rat.intCast_lt_intCast.mpr h1
    have h3 : (((N * UN * UN : Nat) : Int) : Rat) = (N : Rat) * (UN : Rat) * (UN : Rat) := by push_cast; rfl
    rw [h3] at h2
    have h4 := Rat.mul_lt_mul_of_pos_right (Rat.mul_lt_mul_of_pos_right h2 uu_pos) uu_pos
    have h5 : (N : Rat) * (UN : Rat) * (UN : Rat) * uu * uu = (N : Rat) := by
      rw [Rat.mul_assoc (↑N * ↑UN), UN_uu, Rat.mul_one, Rat.mul_assoc, UN_uu, Rat.mul_one]
    rw [h5] at h4
    grind
  · exact h1
theorem mul_rat (hk : k ≤ 1500) (hN : N * UN ≤ 2 ^ 53 * 2 ^ k) (he : ((2 ^ k : Nat) : Rat) * uu = e) (hx : IsFin x) (hy : IsFin y) (h1 : rv x * rv y ≤ (N : Rat)) (h2 : -(N : Rat) ≤ rv x * rv y) :
    IsFin (mul x y) ∧ rv (mul x y) ≤ rv x * rv y + e ∧ rv x * rv y ≤ rv (mul x y) + e ∧ (0 ≤ rv x → 0 ≤ rv y → 0 ≤ rv (mul x y)) := by
  have es : rv x * rv y = ((val x * val y : Int) : Rat) * uu * uu := by unfold rv; rw [Rat.intCast_mul]; grind
  have hb : (val x).natAbs * (val y).natAbs ≤ 2 ^ 1074 * (2 ^ 53 * 2 ^ k) := by
    rw [es] at h1 h2
    have a := int_le2 h1
    have b := int_le2 (i := -(val x * val y)) (N := N) (by rw [Rat.intCast_neg]; simp only [Rat.neg_mul]; grind)
    rw [← Int.natAbs_mul]
    have c : (val x * val y).natAbs ≤ N * UN * UN := by omega
    refine Nat.le_trans c ?_
    rw [Nat.mul_comm]
    exact Nat.mul_le_mul_left UN hN
  obtain ⟨f, a, b, c, _⟩ := mul_int k hk hx hy hb
  have hu := uu_pos
  have key : ∀ i j : Int, i - j ≤ ((2 ^ 1074 * 2 ^ k : Nat) : Int) → (i : Rat) * uu * uu ≤ (j : Rat) * uu * uu + e := by
    intro i j h
    have h3 := scaled h
    rw [Rat.intCast_sub] at h3
    have h4 : (((2 ^ 1074 * 2 ^ k : Nat) : Int) : Rat) * uu = ((2 ^ k : Nat) : Rat) := by
      have : (((2 ^ 1074 * 2 ^ k : Nat) : Int) : Rat) = (UN : Rat) * ((2 ^ k : Nat) : Rat) := by
        show (((2 ^ 1074 * 2 ^ k : Nat)) : Rat) = (((2 ^ 1074 : Nat)) : Rat) * ((2 ^ k : Nat) : Rat)
        rw [Rat.natCast_mul]
      rw [this, Rat.mul_comm (UN : Rat), Rat.mul_assoc, UN_uu, Rat.mul_one]
    rw [h4] at h3
    have h5 := Rat.mul_le_mul_of_nonneg_right h3 (Std.le_of_lt hu)
    rw [he] at h5
    have h6 : ((i : Rat) - (j : Rat)) * uu * uu = (i : Rat) * uu * uu - (j : Rat) * uu * uu := by grind
    rw [h6] at h5
    grind
  have e3 : rv (mul x y) = ((((2 ^ 1074 : Nat) : Int) * val (mul x y) : Int) : Rat) * uu * uu := by
    rw [Rat.intCast_mul]
    have : ((((2 ^ 1074 : Nat)) : Int) : Rat) = (UN : Rat) := rfl
    rw [this, Rat.mul_comm (UN : Rat), Rat.mul_assoc (↑(val (mul x y))), UN_uu, Rat.mul_one]
    rfl
  rw [es]
  refine ⟨f, ?_, ?_, fun p q => nonneg_rv (c (rv_nonneg p) (rv_nonneg q))⟩
  · rw [e3]; exact key _ _ a
  · rw [e3]; exact key _ _ b
theorem div_rat (hk : k ≤ 1500) (hN : N * UN ≤ 2 ^ 53 * 2 ^ k) (he : ((2 ^ k : Nat) : Rat) * uu = e) (hx : IsFin x) (hy : IsFin y) (h0 : 0 < rv y) (h1 : rv x ≤ (N : Rat) * rv y) (h2 : -((N : Rat) * rv y) ≤ rv x) :
    IsFin (div x y) ∧ rv y * rv (div x y) ≤ rv x + rv y * e ∧ rv x ≤ rv y * rv (div x y) + rv y * e ∧ (0 ≤ rv x → 0 ≤ rv (div x y)) := by
  have hu := uu_pos
  have hy0 : 0 < val y := by
    rcases Int.lt_or_le 0 (val y) with h | h
    · exact h
    · exfalso
      have h4 := scaled h
      rw [Rat.intCast_zero] at h4
      unfold rv at h0
      grind
  have low : ∀ i j : Int, (i : Rat) * uu ≤ (j : Rat) * uu → i ≤ j := by
    intro i j h
    rcases Int.lt_or_le j i with h3 | h3
    · exfalso
      have := Rat.mul_lt_mul_of_pos_right (Rat.intCast_lt_intCast.mpr h3) hu
      grind
    · exact h3
  have hb : (val x).natAbs * 2 ^ 1074 ≤ (val y).natAbs * (2 ^ 53 * 2 ^ k) := by
    have a : val x ≤ (N : Int) * val y := low _ _ (by
      rw [Rat.intCast_mul]
      have : (((N : Int)) : Rat) = (N : Rat) := rfl
      rw [this, Rat.mul_assoc]; exact h1)
    have b : -val x ≤ (N : Int) * val y := low _ _ (by
      rw [Rat.intCast_mul, Rat.intCast_neg]
      have : (((N : Int)) : Rat) = (N : Rat) := rfl
      rw [this, Rat.mul_assoc, Rat.neg_mul]; unfold rv at h2; grind)
    have c : (val x).natAbs ≤ N * (val y).natAbs := by
      have d : ((N * (val y).natAbs : Nat) : Int) = (N : Int) * val y := by rw [Int.natCast_mul]; congr 1; omega
      omega
    refine Nat.le_trans (Nat.mul_le_mul_right (2 ^ 1074) c) ?_
    have : N * (val y).natAbs * 2 ^ 1074 = (val y).natAbs * (N * UN) := by
      show N * (val y).natAbs * UN = _
      rw [Nat.mul_comm N, Nat.mul_assoc]
    rw [this]
    exact Nat.mul_le_mul_left _ hN
  obtain ⟨f, a, b, c⟩ := div_int k hk hx hy hy0 hb
  have eU : ((((2 ^ 1074 : Nat)) : Int) : Rat) = (UN : Rat) := rfl
  have eK : ((((2 ^ k : Nat)) : Int) : Rat) = ((2 ^ k : Nat) : Rat) := rfl
  have ex : ((val x * ((2 ^ 1074 : Nat) : Int) : Int) : Rat) * uu * uu = rv x := by
    rw [Rat.intCast_mul, eU, Rat.mul_assoc (val x : Rat), UN_uu, Rat.mul_one]; rfl
  have ey : ((val y * val (div x y) : Int) : Rat) * uu * uu = rv y * rv (div x y) := by
    rw [Rat.intCast_mul]; unfold rv; grind
  have ek : ((val y * ((2 ^ k : Nat) : Int) : Int) : Rat) * uu * uu = rv y * e := by
    rw [Rat.intCast_mul, eK, ← he]; unfold rv; grind
  have key : ∀ i j l : Int, i - j ≤ l → (i : Rat) * uu * uu ≤ (j : Rat) * uu * uu + (l : Rat) * uu * uu := by
    intro i j l h
    have h3 := Rat.mul_le_mul_of_nonneg_right (scaled h) (Std.le_of_lt hu)
    rw [Rat.intCast_sub] at h3
    have h6 : ((i : Rat) - (j : Rat)) * uu * uu = (i : Rat) * uu * uu - (j : Rat) * uu * uu := by grind
    rw [h6] at h3
    grind
  have A := key _ _ _ a
  have B := key _ _ _ b
  rw [ex, ey, ek] at A B
  exact ⟨f, A, B, fun p => nonneg_rv (c (rv_nonneg p))⟩
end
end Mine
end
/-! FT1 -/
section
open PySem PySem.Float64
namespace Mine
theorem UN_at (k : Nat) (h : k ≤ 1074) : UN = 2 ^ k * 2 ^ (1074 - k) := by
  unfold UN; rw [← Nat.pow_add]; congr 1; lia
@[irreducible] def ep : Rat := 1 / 1125899906842624
theorem ep_pos : 0 < ep := by unfold ep; grind
theorem ep_small : 1000000000000 * ep ≤ 1 := by unfold ep; grind
theorem pow_uu {k j : Nat} (h : k + j = 1074) : ((2 ^ k : Nat) : Rat) * uu * ((2 ^ j : Nat) : Rat) = 1 := by
  have e : (UN : Rat) = ((2 ^ k : Nat) : Rat) * ((2 ^ j : Nat) : Rat) := by
    rw [← Rat.natCast_mul, ← Nat.pow_add, h]; rfl
  have h1 := UN_uu
  rw [e] at h1
  generalize ((2 ^ k : Nat) : Rat) = a at *
  generalize ((2 ^ j : Nat) : Rat) = b at *
  grind
theorem ep1024 : ((2 ^ 1024 : Nat) : Rat) * uu = ep := by
  have h := pow_uu (k := 1024) (j := 50) rfl
  have e : ((2 ^ 50 : Nat) : Rat) = 1125899906842624 := by decide +kernel
  rw [e] at h
  unfold ep
  generalize ((2 ^ 1024 : Nat) : Rat) * uu = a at *
  grind
@[irreducible] def e2 : Rat := 1 / 8796093022208
theorem e2_small : 100000000 * e2 ≤ 1 := by unfold e2; grind
theorem e21031 : ((2 ^ 1031 : Nat) : Rat) * uu = e2 := by
  have h := pow_uu (k := 1031) (j := 43) rfl
  have e : ((2 ^ 43 : Nat) : Rat) = 8796093022208 := by decide +kernel
  rw [e] at h
  unfold e2
  generalize ((2 ^ 1031 : Nat) : Rat) * uu = a at *
  grind
theorem N8 : 8 * UN ≤ 2 ^ 53 * 2 ^ 1024 := by
  rw [UN_at 1024 (by decide), Nat.mul_left_comm, Nat.mul_comm (2 ^ 53)]
  exact Nat.mul_le_mul_left _ (by decide)
theorem N1024 : 1024 * UN ≤ 2 ^ 53 * 2 ^ 1031 := by
  rw [UN_at 1031 (by decide), Nat.mul_left_comm, Nat.mul_comm (2 ^ 53)]
  exact Nat.mul_le_mul_left _ (by decide)
section
variable {x y : UInt64}
theorem addE (hx : IsFin x) (hy : IsFin y) (h1 : rv x + rv y ≤ 8) (h2 : -8 ≤ rv x + rv y) :
    IsFin (add x y) ∧ rv (add x y) ≤ rv x + rv y + ep ∧ rv x + rv y ≤ rv (add x y) + ep ∧ (0 ≤ rv x + rv y → 0 ≤ rv (add x y)) ∧ (rv x + rv y ≤ 0 → rv (add x y) ≤ 0) :=
  add_rat (N := 8) (by decide) N8 ep1024 hx hy h1 h2
theorem subE (hx : IsFin x) (hy : IsFin y) (h1 : rv x - rv y ≤ 8) (h2 : -8 ≤ rv x - rv y) :
    IsFin (sub x y) ∧ rv (sub x y) ≤ rv x - rv y + ep ∧ rv x - rv y ≤ rv (sub x y) + ep ∧ (0 ≤ rv x - rv y → 0 ≤ rv (sub x y)) ∧ (rv x - rv y ≤ 0 → rv (sub x y) ≤ 0) :=
  sub_rat (N := 8) (by decide) N8 ep1024 hx hy h1 h2
theorem mulE (hx : IsFin x) (hy : IsFin y) (h1 : rv x * rv y ≤ 8) (h2 : -8 ≤ rv x * rv y) :
    IsFin (mul x y) ∧ rv (mul x y) ≤ rv x * rv y + ep ∧ rv x * rv y ≤ rv (mul x y) + ep ∧ (0 ≤ rv x → 0 ≤ rv y → 0 ≤ rv (mul x y)) :=
  mul_rat (N := 8) (by decide) N8 ep1024 hx hy h1 h2
theorem divE (hx : IsFin x) (hy : IsFin y) (h0 : 0 < rv y) (h1 : rv x ≤ 8 * rv y) (h2 : -(8 * rv y) ≤ rv x) :
    IsFin (div x y) ∧ rv y * rv (div x y) ≤ rv x + rv y * ep ∧ rv x ≤ rv y * rv (div x y) + rv y * ep ∧ (0 ≤ rv x → 0 ≤ rv (div x y)) :=
  div_rat (N := 8) (by decide) N8 ep1024 hx hy h0 h1 h2
theorem mulBig (hx : IsFin x) (hy : IsFin y) (h1 : rv x * rv y ≤ 1024) (h2 : -1024 ≤ rv x * rv y) :
    IsFin (mul x y) ∧ rv (mul x y) ≤ rv x * rv y + e2 ∧ rv x * rv y ≤ rv (mul x y) + e2 := by
  have h := mul_rat (N := 1024) (by decide) N1024 e21031 hx hy h1 h2
  exact ⟨h.1, h.2.1, h.2.2.1⟩
/-! exact sums -/
theorem rv_of {x : UInt64} {i : Int} (h : val x = i) : rv x = (i : Rat) * uu := by unfold rv; rw [h]
theorem sub_exact {a b c : Int} (hx : IsFin x) (hy : IsFin y) (ex : val x = a * ((2 ^ 1066 : Nat) : Int)) (ey : val y = b * ((2 ^ 1066 : Nat) : Int)) (hc : a - b = c) (hb : c.natAbs ≤ 2 ^ 53) : IsFin (sub x y) ∧ val (sub x y) = c * ((2 ^ 1066 : Nat) : Int) := by
  have e : val x - val y = c * ((2 ^ 1066 : Nat) : Int) := by rw [ex, ey, ← Int.sub_mul, hc]
  have en : (val x - val y).natAbs = c.natAbs * 2 ^ 1066 := by rw [e, Int.natAbs_mul, Int.natAbs_natCast]
  have h := sub_int (x := x) (y := y) 1066 (by decide) hx hy (by rw [en]; exact Nat.mul_le_mul_right _ hb)
  exact ⟨h.1, (h.2.2.2.2.2 _ _ hb en).trans e⟩
theorem add_exact {a b c : Int} (hx : IsFin x) (hy : IsFin y) (ex : val x = a * ((2 ^ 1066 : Nat) : Int)) (ey : val y = b * ((2 ^ 1066 : Nat) : Int)) (hc : a + b = c) (hb : c.natAbs ≤ 2 ^ 53) : IsFin (add x y) ∧ val (add x y) = c * ((2 ^ 1066 : Nat) : Int) := by
  have e : val x + val y = c * ((2 ^ 1066 : Nat) : Int) := by rw [ex, ey, ← Int.add_mul, hc]
  have en : (val x + val y).natAbs = c.natAbs * 2 ^ 1066 := by rw [e, Int.natAbs_mul, Int.natAbs_natCast]
  have h := add_int (x := x) (y := y) 1066 (by decide) hx hy (by rw [en]; exact Nat.mul_le_mul_right _ hb)
  exact ⟨h.1, (h.2.2.2.2.2 _ _ hb en).trans e⟩
/-! comparisons -/
theorem uu_lt {i j : Int} : (i : Rat) * uu < (j : Rat) * uu ↔ i < j := by
  constructor
  · intro h
    rcases Int.lt_or_le i j with h1 | h1
    · exact h1
    · have := scaled h1; grind
  · intro h
    exact Rat.mul_lt_mul_of_pos_right (Rat.intCast_lt_intCast.mpr h) uu_pos
theorem cmp_fin (hx : IsFin x) (hy : IsFin y) : cmp x y = some (compare (val x) (val y)) := by
  obtain ⟨a, m, e, hx⟩ := hx
  obtain ⟨b, n, f, hy⟩ := hy
  exact cmp_right hx hy
theorem lt_fin (hx : IsFin x) (hy : IsFin y) : (cmp x y == some .lt) = true ↔ rv x < rv y := by
  rw [cmp_fin hx hy]
  unfold rv
  rw [uu_lt]
  rcases Int.lt_trichotomy (val x) (val y) with h | h | h
  · rw [Int.compare_eq_lt.mpr h]; simp [h]
  · rw [h]; simp
  · rw [Int.compare_eq_gt.mpr h]; simp; lia
theorem gt_fin (hx : IsFin x) (hy : IsFin y) : (cmp x y == some .gt) = true ↔ rv y < rv x := by
  rw [cmp_fin hx hy]
  unfold rv
  rw [uu_lt]
  rcases Int.lt_trichotomy (val x) (val y) with h | h | h
  · rw [Int.compare_eq_lt.mpr h]; simp; lia
  · rw [h]; simp
  · rw [Int.compare_eq_gt.mpr h]; simp [h]
theorem eq_fin (hx : IsFin x) (hy : IsFin y) : (cmp x y == some .eq) = true ↔ val x = val y := by
  rw [cmp_fin hx hy]
  rcases Int.lt_trichotomy (val x) (val y) with h | h | h
  · rw [Int.compare_eq_lt.mpr h]; simp; lia
  · rw [h]; simp
  · rw [Int.compare_eq_gt.mpr h]; simp; lia
theorem nan_fin (hx : IsFin x) : isNaN x = false := by
  obtain ⟨a, m, e, hx⟩ := hx
  unfold isNaN; rw [hx]
theorem inf_fin (hx : IsFin x) : isInf x = false := by
  obtain ⟨a, m, e, hx⟩ := hx
  unfold isInf; rw [hx]
theorem zero_fin' (hx : IsFin x) (h : val x ≠ 0) : isZero x = false := by
  obtain ⟨a, m, e, hx⟩ := hx
  unfold isZero; rw [hx]
  cases m with
  | zero => exfalso; apply h; rw [val_eq hx]; simp [sgn]
  | succ m => rfl
theorem fin_of (h : isFinite x = true) : IsFin x := by
  unfold isFinite at h
  split at h
  · rename_i a m e hd; exact ⟨a, m, e, hd⟩
  · cases h
end
end Mine
end
/-! FT2 -/
section
open PySem PySem.Float64
set_option maxRecDepth 100000
namespace Mine
theorem decode_lt {x : UInt64} {a : Bool} {m : Nat} {e : Int} (h : decode x = .fin a m e) : m < 2 ^ 53 := by
  unfold decode at h
  simp only at h
  split at h
  · split at h <;> cases h
  · split at h
    · cases h; lia
    · cases h; lia
theorem one_is : decode 4607182418800017408 = .fin false (2 ^ 52) (-52) := by unfold decode; rfl
theorem fmod_val {x : UInt64} (hx : IsFin x) : IsFin (fmod x 4607182418800017408) ∧ (val (fmod x 4607182418800017408)).natAbs = (val x).natAbs % UN ∧ (0 ≤ val x → 0 ≤ val (fmod x 4607182418800017408)) ∧ (val x ≤ 0 → val (fmod x 4607182418800017408) ≤ 0) := by
  obtain ⟨a, m, e, hx⟩ := hx
  have he := decode_ge hx
  have hm := decode_lt hx
  obtain ⟨g, hg⟩ : ∃ g, g = min e (-52 : Int) := ⟨_, rfl⟩
  obtain ⟨n, hn⟩ : ∃ n, n = (m * 2 ^ (e - g).toNat) % (2 ^ 52 * 2 ^ (-52 - g).toNat) := ⟨_, rfl⟩
  have hf : fmod x 4607182418800017408 = ofBin a n g := by
    unfold fmod
    rw [hx, one_is]
    simp only
    rw [if_neg (by decide), hn, hg]
    rfl
  have hn53 : n ≤ 2 ^ 53 := by
    rcases Int.le_total e (-52) with h | h
    · have e1 : (e - g).toNat = 0 := by lia
      rw [hn, e1, Nat.pow_zero, Nat.mul_one]
      exact Nat.le_trans (Nat.mod_le _ _) (Nat.le_of_lt hm)
    · have e1 : (-52 - g).toNat = 0 := by lia
      rw [hn, e1, Nat.pow_zero, Nat.mul_one]
      have := Nat.mod_lt (m * 2 ^ (e - g).toNat) (show 0 < 2 ^ 52 by decide)
      lia
  have hR : Right (fmod x 4607182418800017408) a (n * 2 ^ (g + 1074).toNat) 1 := by
    rw [hf]
    unfold ofBin
    refine ofFrac_right (shift_pos _ _ _ (by decide)) ?_ (by decide)
    have := shift_one n g 1074 (by lia)
    rw [Nat.mul_one]
    exact this
  obtain ⟨t, hr, ht, _, hex⟩ := right_near (g + 1074).toNat hR (by decide) (by lia) (by rw [Nat.one_mul]; exact Nat.mul_le_mul_right _ hn53)
  have hV := hex n (g + 1074).toNat hn53 (by rw [Nat.one_mul])
  have hv : val (fmod x 4607182418800017408) = sgn a (n * 2 ^ (g + 1074).toNat) := by rw [hr, val_pack _ ht, hV]
  have hU : UN = 2 ^ 52 * 2 ^ (-52 - g).toNat * 2 ^ (g + 1074).toNat := by
    unfold UN
    rw [← Nat.pow_add, ← Nat.pow_add]
    congr 1
    lia
  have hX : (val x).natAbs = m * 2 ^ (e - g).toNat * 2 ^ (g + 1074).toNat := by
    rw [val_natAbs hx, Nat.mul_assoc, ← Nat.pow_add]
    congr 2
    lia
  refine ⟨by rw [hr]; exact pack_fin ht, ?_, fun h => ?_, fun h => ?_⟩
  · rw [hv, sgn_natAbs, hX, hU, Nat.mul_mod_mul_right, hn]
  · rw [hv]
    rcases Nat.eq_zero_or_pos (n * 2 ^ (g + 1074).toNat) with h0 | h0
    · rw [h0]; unfold sgn; split <;> simp
    · have hx0 : val x ≠ 0 := by
        intro q
        rw [q, Int.natAbs_zero] at hX
        have h1 : m * 2 ^ (e - g).toNat = 0 := by
          rcases Nat.mul_eq_zero.mp hX.symm with h | h
          · exact h
          · exact absurd h (Nat.ne_of_gt (Nat.two_pow_pos _))
        rw [hn, h1] at h0
        simp at h0
      have ha : a = false := by
        cases a with
        | false => rfl
        | true => have := val_sign hx; unfold sgn at this; simp at this; lia
      rw [ha]; exact Int.natCast_nonneg _
  · rw [hv]
    rcases Nat.eq_zero_or_pos (n * 2 ^ (g + 1074).toNat) with h0 | h0
    · rw [h0]; unfold sgn; split <;> simp
    · have hx0 : val x ≠ 0 := by
        intro q
        rw [q, Int.natAbs_zero] at hX
        have h1 : m * 2 ^ (e - g).toNat = 0 := by
          rcases Nat.mul_eq_zero.mp hX.symm with h | h
          · exact h
          · exact absurd h (Nat.ne_of_gt (Nat.two_pow_pos _))
        rw [hn, h1] at h0
        simp at h0
      have ha : a = true := by
        cases a with
        | true => rfl
        | false => have := val_sign hx; unfold sgn at this; simp at this; lia
      rw [ha]; show -((_ : Nat) : Int) ≤ 0; lia
theorem divmod_snd (x y : UInt64) : (divmod x y).snd = if isZero (fmod x y) = true then copysign (zero false) y else if (lt y (zero false) != lt (fmod x y) (zero false)) = true then add (fmod x y) y else fmod x y := by
  unfold divmod
  dsimp only
  by_cases h1 : isZero (fmod x y) = true
  · simp only [h1, if_true]
  · simp only [h1]
    by_cases h2 : (lt y (zero false) != lt (fmod x y) (zero false)) = true
    · simp only [h2, if_true]; rfl
    · simp only [h2]; rfl
theorem one_fin : IsFin 4607182418800017408 := ⟨_, _, _, one_is⟩
theorem one_val : val 4607182418800017408 = ((UN : Nat) : Int) := by rw [val_eq one_is]; unfold UN; decide +kernel
theorem one_rv : rv 4607182418800017408 = 1 := by
  unfold rv; rw [one_val]
  exact UN_uu
/-- the rest by 1.0 -/
theorem mod1 {x : UInt64} (hx : IsFin x) : IsFin (divmod x 4607182418800017408).snd ∧ 0 ≤ rv (divmod x 4607182418800017408).snd ∧ rv (divmod x 4607182418800017408).snd ≤ 1 + ep ∧
    ∃ z : Int, rv (divmod x 4607182418800017408).snd ≤ rv x + (z : Rat) + ep ∧ rv x + (z : Rat) ≤ rv (divmod x 4607182418800017408).snd + ep := by
  obtain ⟨hf, hn, hp, hq⟩ := fmod_val hx
  have he := ep_pos
  have hUp : 0 < UN := Nat.two_pow_pos _
  have hUu := UN_uu
  rw [divmod_snd]
  generalize hM : fmod x 4607182418800017408 = M at *
  have hlt : (val x).natAbs % UN < UN := Nat.mod_lt _ hUp
  have hdm := Nat.div_add_mod (val x).natAbs UN
  have shift : ∀ z : Int, val M = val x + z * ((UN : Nat) : Int) → rv M = rv x + (z : Rat) := by
    intro z h
    unfold rv
    rw [h, Rat.intCast_add, Rat.intCast_mul]
    have : (((UN : Nat) : Int) : Rat) = (UN : Rat) := rfl
    rw [this]
    generalize (UN : Rat) = u at *
    generalize (z : Rat) = w
    have : w * u * uu = w := by rw [Rat.mul_assoc, hUu, Rat.mul_one]
    grind
  have hz : ∃ z : Int, val M = val x + z * ((UN : Nat) : Int) := by
    rcases Int.le_total 0 (val x) with h | h
    · refine ⟨-(((val x).natAbs / UN : Nat) : Int), ?_⟩
      have h1 := hp h
      have e : ((UN * ((val x).natAbs / UN) : Nat) : Int) = (((val x).natAbs / UN : Nat) : Int) * ((UN : Nat) : Int) := by rw [Int.natCast_mul, Int.mul_comm]
      rw [Int.neg_mul]
      generalize (((val x).natAbs / UN : Nat) : Int) * ((UN : Nat) : Int) = k at *
      lia
    · refine ⟨(((val x).natAbs / UN : Nat) : Int), ?_⟩
      have h1 := hq h
      have e : ((UN * ((val x).natAbs / UN) : Nat) : Int) = (((val x).natAbs / UN : Nat) : Int) * ((UN : Nat) : Int) := by rw [Int.natCast_mul, Int.mul_comm]
      generalize (((val x).natAbs / UN : Nat) : Int) * ((UN : Nat) : Int) = k at *
      lia
  obtain ⟨z, hz⟩ := hz
  have hrM := shift z hz
  have hM1 : (val M).natAbs < UN := by rw [hn]; exact hlt
  have hMlt : rv M < 1 := by
    have : (val M) < ((UN : Nat) : Int) := by lia
    have := uu_lt.mpr this
    have e : ((((UN : Nat) : Int)) : Rat) * uu = 1 := UN_uu
    rw [e] at this
    exact this
  have hMgt : -1 < rv M := by
    have : -((UN : Nat) : Int) < (val M) := by lia
    have := uu_lt.mpr this
    have e : (((-((UN : Nat) : Int)) : Int) : Rat) * uu = -1 := by rw [Rat.intCast_neg, Rat.neg_mul]; show -((UN : Rat) * uu) = -1; rw [UN_uu]
    rw [e] at this
    exact this
  by_cases h0 : isZero M = true
  · rw [if_pos h0]
    have hv : val M = 0 := by
      by_cases h : val M = 0
      · exact h
      · rw [zero_fin' hf h] at h0; cases h0
    have hc : copysign (zero false) 4607182418800017408 = zero false := by decide +kernel
    rw [hc]
    have r0 : rv (zero false) = 0 := by unfold rv; rw [(zero_fin false).2]; simp
    have rM0 : rv M = 0 := by unfold rv; rw [hv]; simp
    refine ⟨(zero_fin false).1, by rw [r0]; grind, by rw [r0]; grind, z, ?_, ?_⟩
    · rw [r0]; grind
    · rw [r0]; grind
  · rw [if_neg h0]
    have hl : lt 4607182418800017408 (zero false) = false := by decide +kernel
    rw [hl]
    have hlM : lt M (zero false) = true ↔ rv M < 0 := by
      have h := lt_fin hf (zero_fin false).1
      have r0 : rv (zero false) = 0 := by unfold rv; rw [(zero_fin false).2]; simp
      rw [r0] at h
      exact h
    cases hb : lt M (zero false) with
    | false =>
      have hge : 0 ≤ rv M := by
        by_cases h : rv M < 0
        · rw [hlM.mpr h] at hb; cases hb
        · grind
      rw [if_neg (by decide)]
      exact ⟨hf, hge, by grind, z, by grind, by grind⟩
    | true =>
      have hneg := hlM.mp hb
      rw [if_pos (by decide)]
      have h1 := one_rv
      obtain ⟨a1, a2, a3, a4, _⟩ := addE hf one_fin (by rw [h1]; grind) (by rw [h1]; grind)
      rw [h1] at a2 a3 a4
      refine ⟨a1, a4 (by grind), by grind, z + 1, ?_, ?_⟩
      · rw [Rat.intCast_add]
        have : ((1 : Int) : Rat) = 1 := rfl
        rw [this]; grind
      · rw [Rat.intCast_add]
        have : ((1 : Int) : Rat) = 1 := rfl
        rw [this]; grind
end Mine
end
/-! FT3 -/
section
open PySem PySem.Float64
set_option maxRecDepth 100000
namespace Mine
theorem mod1_lt {x : UInt64} (hx : IsFin x) (h : 0 ≤ rv x) : rv (divmod x 4607182418800017408).snd < 1 := by
  obtain ⟨hf, hn, hp, hq⟩ := fmod_val hx
  have hUp : 0 < UN := Nat.two_pow_pos _
  rw [divmod_snd]
  generalize hM : fmod x 4607182418800017408 = M at *
  have hlt : (val x).natAbs % UN < UN := Nat.mod_lt _ hUp
  have hM1 : (val M).natAbs < UN := by rw [hn]; exact hlt
  have r0 : rv (zero false) = 0 := by unfold rv; rw [(zero_fin false).2]; simp
  by_cases h0 : isZero M = true
  · rw [if_pos h0]
    have hc : copysign (zero false) 4607182418800017408 = zero false := by decide +kernel
    rw [hc, r0]; grind
  · rw [if_neg h0]
    have hl : lt 4607182418800017408 (zero false) = false := by decide +kernel
    have hM0 := hp (rv_nonneg h)
    have hb : lt M (zero false) = false := by
      cases hb : lt M (zero false) with
      | false => rfl
      | true =>
        have h2 := (lt_fin hf (zero_fin false).1).mp hb
        rw [r0] at h2
        have := nonneg_rv hM0
        grind
    rw [hl, hb, if_neg (by decide)]
    have : (val M) < ((UN : Nat) : Int) := by lia
    have := uu_lt.mpr this
    have e : ((((UN : Nat) : Int)) : Rat) * uu = 1 := UN_uu
    rw [e] at this
    exact this
/-! whole parts -/
theorem half_is {n d k : Nat} (hd : 0 < d) (h1 : 2 * n < 2 * (k * d) + d) (h2 : 2 * (k * d) < 2 * n + d) : halfEven n d = k := by
  unfold halfEven
  have hm := Nat.div_add_mod n d
  have hl := Nat.mod_lt n hd
  dsimp only
  generalize n / d = q at *
  generalize n % d = r at *
  have hk : k = q ∨ k = q + 1 := by
    rcases Nat.lt_or_ge k q with h | h
    · exfalso
      have : (k + 1) * d ≤ q * d := Nat.mul_le_mul_right _ h
      rw [Nat.add_mul, Nat.one_mul] at this
      rw [Nat.mul_comm d q] at hm
      lia
    · rcases Nat.lt_or_ge k (q + 2) with h3 | h3
      · lia
      · exfalso
        have : (q + 2) * d ≤ k * d := Nat.mul_le_mul_right _ h3
        rw [Nat.add_mul] at this
        rw [Nat.mul_comm d q] at hm
        lia
  rcases hk with rfl | rfl
  · rw [Nat.mul_comm d k] at hm
    rw [if_neg]
    simp only [Bool.or_eq_true, decide_eq_true_eq, Bool.and_eq_true, beq_iff_eq]
    lia
  · rw [Nat.mul_comm d q] at hm
    rw [Nat.add_mul, Nat.one_mul] at h1 h2
    rw [if_pos]
    simp only [Bool.or_eq_true, decide_eq_true_eq, Bool.and_eq_true, beq_iff_eq]
    lia
theorem near_int {x : UInt64} (hx : IsFin x) {k : Nat} (h1 : 2 * val x < 2 * ((k * UN : Nat) : Int) + ((UN : Nat) : Int)) (h2 : 2 * ((k * UN : Nat) : Int) < 2 * val x + ((UN : Nat) : Int)) :
    Flt.toInt nearestOf x = (k : Int) := by
  obtain ⟨a, m, e, hx⟩ := hx
  have he := decode_ge hx
  have hs := shift_one m e 1074 (by lia)
  have hd := shift_pos m 1 e (by decide)
  have hn := val_natAbs hx
  have hv := val_sign hx
  have hUp : 0 < UN := Nat.two_pow_pos _
  unfold Flt.toInt
  rw [hx]
  show nearestOf a m e = _
  unfold nearestOf
  dsimp only
  generalize (shift m 1 e).1 = n at *
  generalize (shift m 1 e).2 = d at *
  have hs2 : n * UN = (val x).natAbs * d := by rw [hn]; exact hs
  have key : ∀ j : Nat, 2 * (val x).natAbs < 2 * (j * UN) + UN → 2 * (j * UN) < 2 * (val x).natAbs + UN → halfEven n d = j := by
    intro j g1 g2
    have g1' : 2 * (val x).natAbs * d < (2 * (j * UN) + UN) * d := Nat.mul_lt_mul_of_pos_right g1 hd
    have g2' : 2 * (j * UN) * d < (2 * (val x).natAbs + UN) * d := Nat.mul_lt_mul_of_pos_right g2 hd
    have e1 : 2 * (val x).natAbs * d = 2 * n * UN := by rw [Nat.mul_assoc, ← hs2, Nat.mul_assoc]
    have e2 : (2 * (j * UN) + UN) * d = (2 * (j * d) + d) * UN := by grind
    have e3 : 2 * (j * UN) * d = 2 * (j * d) * UN := by grind
    have e4 : (2 * (val x).natAbs + UN) * d = (2 * n + d) * UN := by rw [Nat.add_mul, e1, Nat.add_mul, Nat.mul_comm UN d]
    rw [e1, e2] at g1'
    rw [e3, e4] at g2'
    exact half_is hd (Nat.lt_of_mul_lt_mul_right g1') (Nat.lt_of_mul_lt_mul_right g2')
  rcases Nat.eq_zero_or_pos k with rfl | hk
  · rw [Nat.zero_mul] at h1 h2
    rw [key 0 (by lia) (by lia)]
    unfold sgn; split <;> simp
  · have hkU : UN ≤ k * UN := Nat.le_mul_of_pos_left _ hk
    have hpos : 0 < val x := by lia
    have ha : a = false := by
      cases a with
      | false => rfl
      | true => unfold sgn at hv; simp at hv; lia
    rw [key k (by lia) (by lia), ha]
    rfl
theorem trunc_int {x : UInt64} (hx : IsFin x) (h0 : 0 ≤ val x) : Flt.toInt truncOf x * ((UN : Nat) : Int) ≤ val x ∧ val x < (Flt.toInt truncOf x + 1) * ((UN : Nat) : Int) := by
  obtain ⟨a, m, e, hx⟩ := hx
  have he := decode_ge hx
  have hv := val_eq hx
  have hUp : 0 < UN := Nat.two_pow_pos _
  unfold Flt.toInt
  rw [hx]
  show truncOf a m e * _ ≤ _ ∧ _ < (truncOf a m e + 1) * _
  have main : ∀ m : Nat, floorOf false m e * ((UN : Nat) : Int) ≤ ((m * 2 ^ (e + 1074).toNat : Nat) : Int) ∧ ((m * 2 ^ (e + 1074).toNat : Nat) : Int) < (floorOf false m e + 1) * ((UN : Nat) : Int) := by
    intro m
    unfold floorOf
    by_cases hp : e ≥ 0
    · rw [if_pos hp]
      have e1 : (e + 1074).toNat = e.toNat + 1074 := by lia
      have e2 : ((m * 2 ^ (e + 1074).toNat : Nat) : Int) = sgn false m * 2 ^ e.toNat * ((UN : Nat) : Int) := by
        rw [e1, Nat.pow_add, ← Nat.mul_assoc, Int.natCast_mul, Int.natCast_mul]
        show ((m : Int) * ((2 ^ e.toNat : Nat) : Int)) * ((UN : Nat) : Int) = _
        rw [Int.natCast_pow]; rfl
      rw [e2, Int.add_mul]
      lia
    · rw [if_neg hp]
      have e1 : UN = 2 ^ (-e).toNat * 2 ^ (e + 1074).toNat := by
        unfold UN; rw [← Nat.pow_add]; congr 1; lia
      have hs : (sgn false m).fdiv (2 ^ (-e).toNat) = ((m / 2 ^ (-e).toNat : Nat) : Int) := by
        show ((m : Nat) : Int).fdiv (2 ^ (-e).toNat) = _
        rw [Int.fdiv_eq_ediv_of_nonneg _ (Int.le_of_lt (Int.pow_pos (by decide)))]
        rw [Int.natCast_ediv, Int.natCast_pow]; rfl
      rw [hs]
      have hd := Nat.div_add_mod m (2 ^ (-e).toNat)
      have hl := Nat.mod_lt m (Nat.two_pow_pos (-e).toNat)
      generalize (-e).toNat = p at *
      generalize (e + 1074).toNat = q at *
      have g1 : (m / 2 ^ p) * UN ≤ m * 2 ^ q := by
        rw [e1, ← Nat.mul_assoc]
        exact Nat.mul_le_mul_right _ (by rw [Nat.mul_comm]; lia)
      have g2 : m * 2 ^ q < (m / 2 ^ p + 1) * UN := by
        rw [e1, ← Nat.mul_assoc]
        exact Nat.mul_lt_mul_of_pos_right (by rw [Nat.add_mul, Nat.mul_comm, Nat.one_mul]; lia) (Nat.two_pow_pos _)
      constructor
      · rw [← Int.natCast_mul]; exact Int.ofNat_le.mpr g1
      · have : (((m / 2 ^ p : Nat) : Int) + 1) * ((UN : Nat) : Int) = (((m / 2 ^ p + 1) * UN : Nat) : Int) := by rw [Int.natCast_mul]; rfl
        rw [this]; exact Int.ofNat_lt.mpr g2
  cases a with
  | false => rw [hv]; exact main m
  | true =>
    have hm : m * 2 ^ (e + 1074).toNat = 0 := by rw [hv] at h0; unfold sgn at h0; simp only [if_true] at h0; lia
    have hm0 : m = 0 := by
      rcases Nat.mul_eq_zero.mp hm with h | h
      · exact h
      · exact absurd h (Nat.ne_of_gt (Nat.two_pow_pos _))
    have ht : truncOf true m e = 0 := by
      rw [hm0]; unfold truncOf ceilOf floorOf
      simp only [if_true]
      split <;> simp [sgn]
    rw [ht, hv, hm]
    unfold sgn
    simp only [if_true]
    lia
end Mine
end
/-! FT4 -/
section
open PySem PySem.Float64
set_option maxRecDepth 100000
namespace Mine
theorem rv_ex {x : UInt64} {a : Int} (h : val x = a * ((2 ^ 1066 : Nat) : Int)) : 256 * rv x = (a : Rat) := by
  have h1 := pow_uu (k := 1066) (j := 8) rfl
  have e8 : ((2 ^ 8 : Nat) : Rat) = 256 := by decide +kernel
  rw [e8] at h1
  unfold rv
  rw [h, Rat.intCast_mul]
  have : (((2 ^ 1066 : Nat) : Int) : Rat) = ((2 ^ 1066 : Nat) : Rat) := rfl
  rw [this]
  generalize ((2 ^ 1066 : Nat) : Rat) = u at *
  generalize (a : Rat) = b
  have : b * (u * uu * 256) = b := by rw [h1, Rat.mul_one]
  grind
theorem near {x : UInt64} {k : Int} (q : Int) (h1 : q * val x ≤ k * ((UN : Nat) : Int) + ((2 ^ 1024 : Nat) : Int)) (h2 : k * ((UN : Nat) : Int) ≤ q * val x + ((2 ^ 1024 : Nat) : Int)) : (q : Rat) * rv x ≤ (k : Rat) + ep ∧ (k : Rat) ≤ (q : Rat) * rv x + ep := by
  have s1 := scaled h1
  have s2 := scaled h2
  have he := ep1024
  have hu := UN_uu
  rw [Rat.intCast_mul, Rat.intCast_add, Rat.intCast_mul] at s1 s2
  have c1 : (((2 ^ 1024 : Nat) : Int) : Rat) = ((2 ^ 1024 : Nat) : Rat) := rfl
  have c2 : (((UN : Nat) : Int) : Rat) = (UN : Rat) := rfl
  rw [c1, c2] at s1 s2
  unfold rv
  generalize ((2 ^ 1024 : Nat) : Rat) = w at *
  generalize (UN : Rat) = u at *
  generalize (val x : Rat) = v at *
  generalize (k : Rat) = k at *
  generalize (q : Rat) = q at *
  have g1 : k * u * uu = k := by rw [Rat.mul_assoc, hu, Rat.mul_one]
  constructor
  · grind
  · grind
theorem kF_all : ∀ a : Fin 257, (isFinite (kF (a.val : Int)) && decide (val (kF (a.val : Int)) = (a.val : Int) * ((2 ^ 1066 : Nat) : Int))) = true := by decide +kernel
theorem kF_is {a : Int} (h1 : 0 ≤ a) (h2 : a ≤ 256) : IsFin (kF a) ∧ val (kF a) = a * ((2 ^ 1066 : Nat) : Int) := by
  have h := kF_all ⟨a.toNat, by lia⟩
  have e : ((a.toNat : Nat) : Int) = a := Int.toNat_of_nonneg h1
  simp only [e, Bool.and_eq_true, decide_eq_true_eq] at h
  exact ⟨fin_of h.1, h.2⟩
theorem thF_all : ∀ t : Fin 4, (isFinite (thF (t.val : Int)) && (decide (3 * val (thF (t.val : Int)) ≤ (t.val : Int) * ((UN : Nat) : Int) + ((2 ^ 1024 : Nat) : Int)) && (decide ((t.val : Int) * ((UN : Nat) : Int) ≤ 3 * val (thF (t.val : Int)) + ((2 ^ 1024 : Nat) : Int)) && decide (0 ≤ val (thF (t.val : Int)))))) = true := by
  unfold UN; decide +kernel
theorem thF_is {t : Int} (h1 : 0 ≤ t) (h2 : t ≤ 3) : IsFin (thF t) ∧ 3 * rv (thF t) ≤ (t : Rat) + ep ∧ (t : Rat) ≤ 3 * rv (thF t) + ep ∧ 0 ≤ rv (thF t) := by
  have h := thF_all ⟨t.toNat, by lia⟩
  have e : ((t.toNat : Nat) : Int) = t := Int.toNat_of_nonneg h1
  simp only [e, Bool.and_eq_true, decide_eq_true_eq] at h
  have n := near 3 h.2.1 h.2.2.1
  exact ⟨fin_of h.1, n.1, n.2, nonneg_rv h.2.2.2⟩
theorem six_is : IsFin 4618441417868443648 ∧ rv 4618441417868443648 = 6 := by
  have h : val 4618441417868443648 = 1536 * ((2 ^ 1066 : Nat) : Int) := by decide +kernel
  have := rv_ex h
  have e : ((1536 : Int) : Rat) = 1536 := rfl
  rw [e] at this
  exact ⟨fin_of (by decide +kernel), by grind⟩
theorem two_is : IsFin 4611686018427387904 ∧ val 4611686018427387904 = 512 * ((2 ^ 1066 : Nat) : Int) ∧ rv 4611686018427387904 = 2 := by
  have h : val 4611686018427387904 = 512 * ((2 ^ 1066 : Nat) : Int) := by decide +kernel
  have := rv_ex h
  have e : ((512 : Int) : Rat) = 512 := rfl
  rw [e] at this
  exact ⟨fin_of (by decide +kernel), h, by grind⟩
theorem four_is : IsFin 4616189618054758400 ∧ rv 4616189618054758400 = 4 := by
  have h : val 4616189618054758400 = 1024 * ((2 ^ 1066 : Nat) : Int) := by decide +kernel
  have := rv_ex h
  have e : ((1024 : Int) : Rat) = 1024 := rfl
  rw [e] at this
  exact ⟨fin_of (by decide +kernel), by grind⟩
theorem hlf_is : IsFin 4602678819172646912 ∧ rv 4602678819172646912 = 1 / 2 := by
  have h : val 4602678819172646912 = 128 * ((2 ^ 1066 : Nat) : Int) := by decide +kernel
  have := rv_ex h
  have e : ((128 : Int) : Rat) = 128 := rfl
  rw [e] at this
  exact ⟨fin_of (by decide +kernel), by grind⟩
theorem sixth_is : IsFin 4595172819793696085 ∧ 6 * rv 4595172819793696085 ≤ 1 + ep ∧ 1 ≤ 6 * rv 4595172819793696085 + ep := by
  have n := near (x := 4595172819793696085) (k := 1) 6 (by unfold UN; decide +kernel) (by unfold UN; decide +kernel)
  exact ⟨fin_of (by decide +kernel), n.1, n.2⟩
theorem thd_is : IsFin 4599676419421066581 ∧ 3 * rv 4599676419421066581 ≤ 1 + ep ∧ 1 ≤ 3 * rv 4599676419421066581 + ep := by
  have n := near (x := 4599676419421066581) (k := 1) 3 (by unfold UN; decide +kernel) (by unfold UN; decide +kernel)
  exact ⟨fin_of (by decide +kernel), n.1, n.2⟩
theorem thds_is : IsFin 4604180019048437077 ∧ 3 * rv 4604180019048437077 ≤ 2 + ep ∧ 2 ≤ 3 * rv 4604180019048437077 + ep := by
  have n := near (x := 4604180019048437077) (k := 2) 3 (by unfold UN; decide +kernel) (by unfold UN; decide +kernel)
  exact ⟨fin_of (by decide +kernel), n.1, n.2⟩
theorem zro_is : IsFin 0 ∧ val 0 = 0 ∧ rv 0 = 0 := by
  have h : val 0 = 0 := by decide +kernel
  exact ⟨fin_of (by decide +kernel), h, by unfold rv; rw [h]; simp⟩
theorem n256_is : IsFin (ofInt 256) ∧ rv (ofInt 256) = 256 := by
  have h : val (ofInt 256) = 65536 * ((2 ^ 1066 : Nat) : Int) := by decide +kernel
  have := rv_ex h
  have e : ((65536 : Int) : Rat) = 65536 := rfl
  rw [e] at this
  exact ⟨fin_of (by decide +kernel), by grind⟩
theorem ofI_all : ∀ i : Fin 17, (isFinite (ofInt (i.val : Int)) && decide (val (ofInt (i.val : Int)) = (i.val : Int) * ((UN : Nat) : Int))) = true := by unfold UN; decide +kernel
theorem ofI_is {i : Int} (h1 : 0 ≤ i) (h2 : i ≤ 16) : IsFin (ofInt i) ∧ rv (ofInt i) = (i : Rat) := by
  have h := ofI_all ⟨i.toNat, by lia⟩
  have e : ((i.toNat : Nat) : Int) = i := Int.toNat_of_nonneg h1
  simp only [e, Bool.and_eq_true, decide_eq_true_eq] at h
  refine ⟨fin_of h.1, ?_⟩
  unfold rv
  rw [h.2, Rat.intCast_mul]
  have : (((UN : Nat) : Int) : Rat) = (UN : Rat) := rfl
  rw [this, Rat.mul_assoc, UN_uu, Rat.mul_one]
theorem round_to {x : UInt64} (hx : IsFin x) {n : Int} (h0 : 0 ≤ n) (hn : n ≤ 256) (h1 : 256 * rv x ≤ (n : Rat) + 1 / 4) (h2 : (n : Rat) ≤ 256 * rv x + 1 / 4) : RoundOk x ∧ roundP x = n := by
  have hN := n256_is
  have hn' : (n : Rat) ≤ 256 := by have := Rat.intCast_le_intCast.mpr hn; exact this
  have h0' : (0 : Rat) ≤ (n : Rat) := by have := Rat.intCast_le_intCast.mpr h0; exact this
  obtain ⟨f, b1, b2⟩ := mulBig hN.1 hx (by rw [hN.2]; grind) (by rw [hN.2]; grind)
  rw [hN.2] at b1 b2
  have hs := e2_small
  refine ⟨⟨nan_fin f, inf_fin f⟩, ?_⟩
  unfold roundP
  generalize hY : mul (ofInt 256) x = y at *
  have e : ((n.toNat : Nat) : Int) = n := Int.toNat_of_nonneg h0
  rw [near_int f (k := n.toNat) ?_ ?_, e]
  · have : ((2 * val y : Int) : Rat) * uu < ((2 * ((n.toNat * UN : Nat) : Int) + ((UN : Nat) : Int) : Int) : Rat) * uu := by
      rw [Int.natCast_mul, e, Rat.intCast_add, Rat.intCast_mul, Rat.intCast_mul, Rat.intCast_mul]
      have c2 : (((UN : Nat) : Int) : Rat) = (UN : Rat) := rfl
      have c3 : ((2 : Int) : Rat) = 2 := rfl
      rw [c2, c3]
      have hu := UN_uu
      have hy : (val y : Rat) * uu = rv y := rfl
      generalize rv y = r at *
      generalize (val y : Rat) = vy at *
      generalize (UN : Rat) = u at *
      generalize (n : Rat) = k at *
      have g1 : k * u * uu = k := by rw [Rat.mul_assoc, hu, Rat.mul_one]
      have g2 : 2 * vy * uu = 2 * r := by rw [Rat.mul_assoc, hy]
      have g3 : (2 * (k * u) + u) * uu = 2 * k + 1 := by rw [Rat.add_mul, Rat.mul_assoc, g1, hu]
      rw [g2, g3]
      grind
    exact uu_lt.mp this
  · have : ((2 * ((n.toNat * UN : Nat) : Int) : Int) : Rat) * uu < ((2 * val y + ((UN : Nat) : Int) : Int) : Rat) * uu := by
      rw [Int.natCast_mul, e, Rat.intCast_add, Rat.intCast_mul, Rat.intCast_mul, Rat.intCast_mul]
      have c2 : (((UN : Nat) : Int) : Rat) = (UN : Rat) := rfl
      have c3 : ((2 : Int) : Rat) = 2 := rfl
      rw [c2, c3]
      have hu := UN_uu
      have hy : (val y : Rat) * uu = rv y := rfl
      generalize rv y = r at *
      generalize (val y : Rat) = vy at *
      generalize (UN : Rat) = u at *
      generalize (n : Rat) = k at *
      have g1 : k * u * uu = k := by rw [Rat.mul_assoc, hu, Rat.mul_one]
      have g2 : 2 * (k * u) * uu = 2 * k := by rw [Rat.mul_assoc, g1]
      have g3 : (2 * vy + u) * uu = 2 * r + 1 := by rw [Rat.add_mul, Rat.mul_assoc, hy, hu]
      rw [g2, g3]
      grind
    exact uu_lt.mp this
theorem trunc_rv {x : UInt64} (hx : IsFin x) (h : 0 ≤ rv x) : ((Flt.toInt truncOf x : Int) : Rat) ≤ rv x ∧ rv x < ((Flt.toInt truncOf x : Int) : Rat) + 1 := by
  have ⟨h1, h2⟩ := trunc_int hx (rv_nonneg h)
  have s1 := scaled h1
  have s2 := uu_lt.mpr h2
  generalize Flt.toInt truncOf x = i at *
  rw [Rat.intCast_mul] at s1 s2
  rw [Rat.intCast_add] at s2
  have c2 : (((UN : Nat) : Int) : Rat) = (UN : Rat) := rfl
  have c3 : ((1 : Int) : Rat) = 1 := rfl
  rw [c2] at s1 s2
  rw [c3] at s2
  rw [Rat.mul_assoc, UN_uu, Rat.mul_one] at s1 s2
  exact ⟨s1, s2⟩
/-! the greatest and the least -/
theorem kF_lt {a b : Int} (ha : 0 ≤ a) (ha2 : a ≤ 256) (hb : 0 ≤ b) (hb2 : b ≤ 256) : (cmp (kF a) (kF b) == some .lt) = true ↔ a < b := by
  have ⟨f1, v1⟩ := kF_is ha ha2
  have ⟨f2, v2⟩ := kF_is hb hb2
  rw [lt_fin f1 f2]
  have r1 := rv_ex v1
  have r2 := rv_ex v2
  rw [← Rat.intCast_lt_intCast (a := a) (b := b)]
  grind
theorem kF_eq {a b : Int} (ha : 0 ≤ a) (ha2 : a ≤ 256) (hb : 0 ≤ b) (hb2 : b ≤ 256) : (cmp (kF a) (kF b) == some .eq) = true ↔ a = b := by
  have ⟨f1, v1⟩ := kF_is ha ha2
  have ⟨f2, v2⟩ := kF_is hb hb2
  rw [eq_fin f1 f2, v1, v2]
  constructor
  · intro h
    exact Int.eq_of_mul_eq_mul_right (by exact Int.ofNat_ne_zero.mpr (Nat.ne_of_gt (Nat.two_pow_pos 1066))) h
  · intro h; rw [h]
theorem mx3 {a b c : Int} (ha : 0 ≤ a) (ha2 : a ≤ 256) (hb : 0 ≤ b) (hb2 : b ≤ 256) (hc : 0 ≤ c) (hc2 : c ≤ 256) : ∃ M, maxF (maxF (kF a) (kF b)) (kF c) = kF M ∧ (M = a ∨ M = b ∨ M = c) ∧ a ≤ M ∧ b ≤ M ∧ c ≤ M := by
  unfold maxF
  by_cases h1 : a < b
  · rw [if_pos ((kF_lt ha ha2 hb hb2).mpr h1)]
    by_cases h2 : b < c
    · rw [if_pos ((kF_lt hb hb2 hc hc2).mpr h2)]; exact ⟨c, rfl, by lia⟩
    · rw [if_neg (fun q => h2 ((kF_lt hb hb2 hc hc2).mp q))]; exact ⟨b, rfl, by lia⟩
  · rw [if_neg (fun q => h1 ((kF_lt ha ha2 hb hb2).mp q))]
    by_cases h2 : a < c
    · rw [if_pos ((kF_lt ha ha2 hc hc2).mpr h2)]; exact ⟨c, rfl, by lia⟩
    · rw [if_neg (fun q => h2 ((kF_lt ha ha2 hc hc2).mp q))]; exact ⟨a, rfl, by lia⟩
theorem mn3 {a b c : Int} (ha : 0 ≤ a) (ha2 : a ≤ 256) (hb : 0 ≤ b) (hb2 : b ≤ 256) (hc : 0 ≤ c) (hc2 : c ≤ 256) : ∃ m, minF (minF (kF a) (kF b)) (kF c) = kF m ∧ (m = a ∨ m = b ∨ m = c) ∧ m ≤ a ∧ m ≤ b ∧ m ≤ c := by
  unfold minF
  by_cases h1 : b < a
  · rw [if_pos ((kF_lt hb hb2 ha ha2).mpr h1)]
    by_cases h2 : c < b
    · rw [if_pos ((kF_lt hc hc2 hb hb2).mpr h2)]; exact ⟨c, rfl, by lia⟩
    · rw [if_neg (fun q => h2 ((kF_lt hc hc2 hb hb2).mp q))]; exact ⟨b, rfl, by lia⟩
  · rw [if_neg (fun q => h1 ((kF_lt hb hb2 ha ha2).mp q))]
    by_cases h2 : c < a
    · rw [if_pos ((kF_lt hc hc2 ha ha2).mpr h2)]; exact ⟨c, rfl, by lia⟩
    · rw [if_neg (fun q => h2 ((kF_lt hc hc2 ha ha2).mp q))]; exact ⟨a, rfl, by lia⟩
end Mine
end
/-! FT5 -/
section
open PySem PySem.Float64
set_option maxRecDepth 100000
set_option maxHeartbeats 0
namespace Mine
theorem scale {r x y : Rat} (h : 0 ≤ r) (hxy : x ≤ y) : r * x ≤ r * y := Rat.mul_le_mul_of_nonneg_left hxy h
theorem cancel {r x y : Rat} (h : 0 < r) (h2 : r * x ≤ r * y) : x ≤ y := by
  by_cases q : x ≤ y
  · exact q
  · have : y < x := by grind
    have := Rat.mul_lt_mul_of_pos_left this h
    grind
theorem ile {a b : Int} (h : a ≤ b) : (a : Rat) ≤ (b : Rat) := Rat.intCast_le_intCast.mpr h
/-- a quotient of whole numbers -/
theorem quo {M a m : Int} (h0 : 0 ≤ m) (h1 : m ≤ a) (h2 : a ≤ M) (h3 : M ≤ 256) (hlt : m < M) :
    IsFin (div (sub (kF M) (kF a)) (sub (kF M) (kF m))) ∧ ((M - m : Int) : Rat) * rv (div (sub (kF M) (kF a)) (sub (kF M) (kF m))) ≤ ((M - a : Int) : Rat) + ((M - m : Int) : Rat) * ep ∧ ((M - a : Int) : Rat) ≤ ((M - m : Int) : Rat) * rv (div (sub (kF M) (kF a)) (sub (kF M) (kF m))) + ((M - m : Int) : Rat) * ep ∧
    0 ≤ rv (div (sub (kF M) (kF a)) (sub (kF M) (kF m))) ∧ rv (div (sub (kF M) (kF a)) (sub (kF M) (kF m))) ≤ 1 + ep := by
  have ⟨fM, vM⟩ := kF_is (a := M) (by lia) h3
  have ⟨fa, va⟩ := kF_is (a := a) (by lia) (by lia)
  have ⟨fm, vm⟩ := kF_is (a := m) (by lia) (by lia)
  have ⟨fx, vx⟩ := sub_exact fM fa vM va (c := M - a) rfl (by lia)
  have ⟨fy, vy⟩ := sub_exact fM fm vM vm (c := M - m) rfl (by lia)
  have rx := rv_ex vx
  have ry := rv_ex vy
  generalize hX : sub (kF M) (kF a) = X at *
  generalize hY : sub (kF M) (kF m) = Y at *
  have p1 : (0 : Rat) ≤ ((M - a : Int) : Rat) := ile (show (0 : Int) ≤ M - a by lia)
  have p2 : (1 : Rat) ≤ ((M - m : Int) : Rat) := ile (show (1 : Int) ≤ M - m by lia)
  have p3 : ((M - a : Int) : Rat) ≤ ((M - m : Int) : Rat) := ile (show (M - a : Int) ≤ M - m by lia)
  generalize ((M - a : Int) : Rat) = A at *
  generalize ((M - m : Int) : Rat) = R at *
  have ⟨f, d1, d2, d3⟩ := divE fx fy (by grind) (by grind) (by grind)
  generalize rv (div X Y) = q at *
  have e : rv Y * q = R * q / 256 := by rw [← ry]; grind
  have e' : rv Y * ep = R * ep / 256 := by rw [← ry]; grind
  rw [e, e'] at d1 d2
  have g1 : R * q ≤ A + R * ep := by grind
  refine ⟨f, g1, by grind, d3 (by grind), cancel (r := R) (by grind) ?_⟩
  have : R * (1 + ep) = R + R * ep := by grind
  rw [this]; grind
/-- the hue -/
theorem hue_is {a b c M m : Int} (ha : 0 ≤ a) (ha2 : a ≤ 256) (hb : 0 ≤ b) (hb2 : b ≤ 256) (hc : 0 ≤ c) (hc2 : c ≤ 256)
    (eM : maxF (maxF (kF a) (kF b)) (kF c) = kF M) (em : minF (minF (kF a) (kF b)) (kF c) = kF m) (oM : M = a ∨ M = b ∨ M = c) (gM : a ≤ M ∧ b ≤ M ∧ c ≤ M) (om : m = a ∨ m = b ∨ m = c) (gm : m ≤ a ∧ m ≤ b ∧ m ≤ c) (hlt : m < M) :
    IsFin (hueF (kF a) (kF b) (kF c)) ∧ 0 ≤ rv (hueF (kF a) (kF b) (kF c)) ∧ rv (hueF (kF a) (kF b) (kF c)) < 1 ∧ ∃ D z : Int,
      ((a = M ∧ D = b - c) ∨ (b = M ∧ D = 2 * (M - m) + c - a) ∨ (c = M ∧ D = 4 * (M - m) + a - b)) ∧
      6 * (((M - m : Int) : Rat) * rv (hueF (kF a) (kF b) (kF c))) ≤ (D : Rat) + 6 * (((M - m : Int) : Rat) * (z : Rat)) + 20 * (((M - m : Int) : Rat) * ep) ∧
      (D : Rat) + 6 * (((M - m : Int) : Rat) * (z : Rat)) ≤ 6 * (((M - m : Int) : Rat) * rv (hueF (kF a) (kF b) (kF c))) + 20 * (((M - m : Int) : Rat) * ep) := by
  have hs := ep_small
  have hp := ep_pos
  have ⟨fa, a1, a2, a3, a4⟩ := quo (M := M) (a := a) (m := m) (by lia) (by lia) (by lia) (by lia) hlt
  have ⟨fb, b1, b2, b3, b4⟩ := quo (M := M) (a := b) (m := m) (by lia) (by lia) (by lia) (by lia) hlt
  have ⟨fc, c1, c2, c3, c4⟩ := quo (M := M) (a := c) (m := m) (by lia) (by lia) (by lia) (by lia) hlt
  have ⟨f6, r6⟩ := six_is
  have ⟨f2, _, r2⟩ := two_is
  have ⟨f4, r4⟩ := four_is
  have R1 : (1 : Rat) ≤ ((M - m : Int) : Rat) := ile (show (1 : Int) ≤ M - m by lia)
  have R2 : ((M - m : Int) : Rat) ≤ 256 := ile (show (M - m : Int) ≤ 256 by lia)
  have fin : ∀ (x : UInt64) (D : Int), IsFin x → (0 ≤ rv x ∨ (rv x ≤ -1 / 300 ∧ -2 ≤ rv x)) → rv x ≤ 5 + 5 * ep → ((M - m : Int) : Rat) * rv x ≤ (D : Rat) + 5 * (((M - m : Int) : Rat) * ep) → (D : Rat) ≤ ((M - m : Int) : Rat) * rv x + 5 * (((M - m : Int) : Rat) * ep) →
      IsFin (divmod (div x 4618441417868443648) 4607182418800017408).snd ∧ 0 ≤ rv (divmod (div x 4618441417868443648) 4607182418800017408).snd ∧ rv (divmod (div x 4618441417868443648) 4607182418800017408).snd < 1 ∧ ∃ z : Int,
      6 * (((M - m : Int) : Rat) * rv (divmod (div x 4618441417868443648) 4607182418800017408).snd) ≤ (D : Rat) + 6 * (((M - m : Int) : Rat) * (z : Rat)) + 20 * (((M - m : Int) : Rat) * ep) ∧
      (D : Rat) + 6 * (((M - m : Int) : Rat) * (z : Rat)) ≤ 6 * (((M - m : Int) : Rat) * rv (divmod (div x 4618441417868443648) 4607182418800017408).snd) + 20 * (((M - m : Int) : Rat) * ep) := by
    intro x D fx sx ux g1 g2
    have ⟨fd, d1, d2, d3⟩ := divE fx f6 (by rw [r6]; grind) (by rw [r6]; grind) (by rw [r6]; grind)
    rw [r6] at d1 d2
    have ⟨fm1, m1, m2, z, m3, m4⟩ := mod1 fd
    have lt1 := mod1_lt fd
    generalize div x 4618441417868443648 = d at *
    generalize (divmod d 4607182418800017408).snd = h at *
    generalize ((M - m : Int) : Rat) = R at *
    refine ⟨fm1, m1, ?_, z, ?_, ?_⟩
    · rcases sx with sx | sx
      · exact lt1 (d3 sx)
      · rcases Int.lt_trichotomy z 1 with hz | hz | hz
        · have : (z : Rat) ≤ 0 := ile (show z ≤ 0 by lia)
          grind
        · have : (z : Rat) = 1 := by rw [hz]; rfl
          grind
        · have : (2 : Rat) ≤ (z : Rat) := ile (show 2 ≤ z by lia)
          grind
    · have s1 := scale (r := R) (by grind) m3
      have s2 := scale (r := R) (by grind) d1
      generalize (z : Rat) = z at *
      have e1 : R * (rv d + z + ep) = R * rv d + R * z + R * ep := by grind
      have e2 : R * (6 * rv d) = 6 * (R * rv d) := by grind
      have e3 : R * (rv x + 6 * ep) = R * rv x + 6 * (R * ep) := by grind
      rw [e1] at s1
      rw [e2, e3] at s2
      grind
    · have s1 := scale (r := R) (by grind) m4
      have s2 := scale (r := R) (by grind) d2
      generalize (z : Rat) = z at *
      have e1 : R * (rv d + z) = R * rv d + R * z := by grind
      have e1' : R * (rv h + ep) = R * rv h + R * ep := by grind
      have e2 : R * (6 * rv d + 6 * ep) = 6 * (R * rv d) + 6 * (R * ep) := by grind
      rw [e1, e1'] at s1
      rw [e2] at s2
      grind
  unfold hueF
  rw [eM, em]
  generalize hA : div (sub (kF M) (kF a)) (sub (kF M) (kF m)) = A at *
  generalize hB : div (sub (kF M) (kF b)) (sub (kF M) (kF m)) = B at *
  generalize hC : div (sub (kF M) (kF c)) (sub (kF M) (kF m)) = C at *
  have subR : ∀ (x y : UInt64) (u v : Rat), IsFin x → IsFin y → rv x - rv y ≤ 8 → -8 ≤ rv x - rv y →
      ((M - m : Int) : Rat) * rv x ≤ u + 3 * (((M - m : Int) : Rat) * ep) → u ≤ ((M - m : Int) : Rat) * rv x + 3 * (((M - m : Int) : Rat) * ep) →
      ((M - m : Int) : Rat) * rv y ≤ v + ((M - m : Int) : Rat) * ep → v ≤ ((M - m : Int) : Rat) * rv y + ((M - m : Int) : Rat) * ep →
      ((M - m : Int) : Rat) * rv (sub x y) ≤ (u - v) + 5 * (((M - m : Int) : Rat) * ep) ∧ (u - v) ≤ ((M - m : Int) : Rat) * rv (sub x y) + 5 * (((M - m : Int) : Rat) * ep) := by
    intro x y u v fx fy l1 l2 g1 g2 g3 g4
    have ⟨fs, s1, s2, _, _⟩ := subE fx fy l1 l2
    generalize ((M - m : Int) : Rat) = R at *
    have t1 := scale (r := R) (by grind) s1
    have t2 := scale (r := R) (by grind) s2
    have e1 : R * (rv x - rv y + ep) = R * rv x - R * rv y + R * ep := by grind
    have e2 : R * (rv x - rv y) = R * rv x - R * rv y := by grind
    have e3 : R * (rv (sub x y) + ep) = R * rv (sub x y) + R * ep := by grind
    rw [e1] at t1
    rw [e2, e3] at t2
    have : 0 ≤ R * ep := Rat.mul_nonneg (by grind) (by grind)
    constructor <;> grind
  have Re0 : 0 ≤ ((M - m : Int) : Rat) * ep := Rat.mul_nonneg (by grind) (by grind)
  by_cases h1 : (cmp (kF a) (kF M) == some .eq) = true
  · have haM := (kF_eq ha ha2 (by lia) (by lia)).mp h1
    rw [if_pos h1]
    have ⟨fs, s1, s2, s3, s4⟩ := subE fc fb (by grind) (by grind)
    have ⟨t1, t2⟩ := subR C B ((M - c : Int) : Rat) ((M - b : Int) : Rat) fc fb (by grind) (by grind) (by grind) (by grind) (by grind) (by grind)
    have eD : ((M - c : Int) : Rat) - ((M - b : Int) : Rat) = ((b - c : Int) : Rat) := by rw [← Rat.intCast_sub]; congr 1; lia
    rw [eD] at t1 t2
    have sg : 0 ≤ rv (sub C B) ∨ (rv (sub C B) ≤ -1 / 300 ∧ -2 ≤ rv (sub C B)) := by
      rcases Int.lt_trichotomy b c with h | h | h
      · right
        have h' : ((b - c : Int) : Rat) ≤ -1 := ile (show (b - c : Int) ≤ -1 by lia)
        refine ⟨?_, by grind⟩
        by_cases q : rv (sub C B) ≤ -1 / 300
        · exact q
        · have q2 : -1 / 300 ≤ rv (sub C B) := by grind
          have := scale (r := ((M - m : Int) : Rat)) (by grind) q2
          have h5 : ((M - m : Int) : Rat) * ep ≤ 256 * ep := by
            have := scale (r := ep) (by grind) R2
            rw [Rat.mul_comm, Rat.mul_comm 256]; exact this
          generalize ((M - m : Int) : Rat) = R at *
          grind
      · left
        apply s3
        have : C = B := by rw [← hC, ← hB, h]
        rw [this]; grind
      · left
        apply s3
        have h' : (1 : Rat) ≤ ((b - c : Int) : Rat) := ile (show (1 : Int) ≤ b - c by lia)
        apply cancel (r := ((M - m : Int) : Rat)) (by grind)
        have h5 : ((M - m : Int) : Rat) * ep ≤ 256 * ep := by
          have := scale (r := ep) (by grind) R2
          rw [Rat.mul_comm, Rat.mul_comm 256]; exact this
        generalize ((M - m : Int) : Rat) = R at *
        have e2 : R * (rv C - rv B) = R * rv C - R * rv B := by grind
        rw [e2]
        grind
    have ⟨k1, k2, k3, z, k4, k5⟩ := fin (sub C B) (b - c) fs sg (by grind) t1 t2
    exact ⟨k1, k2, k3, b - c, z, .inl ⟨haM, rfl⟩, k4, k5⟩
  · rw [if_neg h1]
    have hR2 : ((M - m : Int) : Rat) * 2 = ((2 * (M - m) : Int) : Rat) := by rw [Rat.intCast_mul, Rat.mul_comm]; rfl
    have hR4 : ((M - m : Int) : Rat) * 4 = ((4 * (M - m) : Int) : Rat) := by rw [Rat.intCast_mul, Rat.mul_comm]; rfl
    by_cases h2 : (cmp (kF b) (kF M) == some .eq) = true
    · have hbM := (kF_eq hb hb2 (by lia) (by lia)).mp h2
      rw [if_pos h2]
      have ⟨fs, s1, s2, s3, s4⟩ := addE f2 fa (by grind) (by grind)
      rw [r2] at s1 s2 s3 s4
      have u1 : ((M - m : Int) : Rat) * rv (add 4611686018427387904 A) ≤ ((2 * (M - m) + (M - a) : Int) : Rat) + 3 * (((M - m : Int) : Rat) * ep) := by
        have t := scale (r := ((M - m : Int) : Rat)) (by grind) s1
        rw [Rat.intCast_add, ← hR2]
        generalize ((M - m : Int) : Rat) = R at *
        have e1 : R * (2 + rv A + ep) = R * 2 + R * rv A + R * ep := by grind
        rw [e1] at t
        grind
      have u2 : ((2 * (M - m) + (M - a) : Int) : Rat) ≤ ((M - m : Int) : Rat) * rv (add 4611686018427387904 A) + 3 * (((M - m : Int) : Rat) * ep) := by
        have t := scale (r := ((M - m : Int) : Rat)) (by grind) s2
        rw [Rat.intCast_add, ← hR2]
        generalize ((M - m : Int) : Rat) = R at *
        have e1 : R * (2 + rv A) = R * 2 + R * rv A := by grind
        have e2 : R * (rv (add 4611686018427387904 A) + ep) = R * rv (add 4611686018427387904 A) + R * ep := by grind
        rw [e1, e2] at t
        grind
      have ⟨fq, q1, q2, q3, q4⟩ := subE fs fc (by grind) (by grind)
      have ⟨t1, t2⟩ := subR (add 4611686018427387904 A) C _ ((M - c : Int) : Rat) fs fc (by grind) (by grind) u1 u2 (by grind) (by grind)
      have eD : ((2 * (M - m) + (M - a) : Int) : Rat) - ((M - c : Int) : Rat) = ((2 * (M - m) + c - a : Int) : Rat) := by rw [← Rat.intCast_sub]; congr 1; lia
      rw [eD] at t1 t2
      have ⟨k1, k2, k3, z, k4, k5⟩ := fin (sub (add 4611686018427387904 A) C) (2 * (M - m) + c - a) fq (.inl (q3 (by grind))) (by grind) t1 t2
      exact ⟨k1, k2, k3, _, z, .inr (.inl ⟨hbM, rfl⟩), k4, k5⟩
    · rw [if_neg h2]
      have hcM : c = M := by
        rcases oM with h | h | h
        · exact absurd ((kF_eq ha ha2 (by lia) (by lia)).mpr h.symm) h1
        · exact absurd ((kF_eq hb hb2 (by lia) (by lia)).mpr h.symm) h2
        · exact h.symm
      have ⟨fs, s1, s2, s3, s4⟩ := addE f4 fb (by grind) (by grind)
      rw [r4] at s1 s2 s3 s4
      have u1 : ((M - m : Int) : Rat) * rv (add 4616189618054758400 B) ≤ ((4 * (M - m) + (M - b) : Int) : Rat) + 3 * (((M - m : Int) : Rat) * ep) := by
        have t := scale (r := ((M - m : Int) : Rat)) (by grind) s1
        rw [Rat.intCast_add, ← hR4]
        generalize ((M - m : Int) : Rat) = R at *
        have e1 : R * (4 + rv B + ep) = R * 4 + R * rv B + R * ep := by grind
        rw [e1] at t
        grind
      have u2 : ((4 * (M - m) + (M - b) : Int) : Rat) ≤ ((M - m : Int) : Rat) * rv (add 4616189618054758400 B) + 3 * (((M - m : Int) : Rat) * ep) := by
        have t := scale (r := ((M - m : Int) : Rat)) (by grind) s2
        rw [Rat.intCast_add, ← hR4]
        generalize ((M - m : Int) : Rat) = R at *
        have e1 : R * (4 + rv B) = R * 4 + R * rv B := by grind
        have e2 : R * (rv (add 4616189618054758400 B) + ep) = R * rv (add 4616189618054758400 B) + R * ep := by grind
        rw [e1, e2] at t
        grind
      have ⟨fq, q1, q2, q3, q4⟩ := subE fs fa (by grind) (by grind)
      have ⟨t1, t2⟩ := subR (add 4616189618054758400 B) A _ ((M - a : Int) : Rat) fs fa (by grind) (by grind) u1 u2 (by grind) (by grind)
      have eD : ((4 * (M - m) + (M - b) : Int) : Rat) - ((M - a : Int) : Rat) = ((4 * (M - m) + a - b : Int) : Rat) := by rw [← Rat.intCast_sub]; congr 1; lia
      rw [eD] at t1 t2
      have ⟨k1, k2, k3, z, k4, k5⟩ := fin (sub (add 4616189618054758400 B) A) (4 * (M - m) + a - b) fq (.inl (q3 (by grind))) (by grind) t1 t2
      exact ⟨k1, k2, k3, _, z, .inr (.inr ⟨hcM, rfl⟩), k4, k5⟩
end Mine
end
/-! FT6 -/
section
open PySem PySem.Float64
set_option maxRecDepth 100000
set_option maxHeartbeats 0
namespace Mine
theorem absmul {d w e k : Rat} (h1 : -e ≤ d) (h2 : d ≤ e) (h3 : -k ≤ w) (h4 : w ≤ k) : d * w ≤ e * k ∧ -(e * k) ≤ d * w := by
  have p1 : 0 ≤ (e - d) * (k + w) := Rat.mul_nonneg (by grind) (by grind)
  have p2 : 0 ≤ (e + d) * (k - w) := Rat.mul_nonneg (by grind) (by grind)
  have p3 : 0 ≤ (e - d) * (k - w) := Rat.mul_nonneg (by grind) (by grind)
  have p4 : 0 ≤ (e + d) * (k + w) := Rat.mul_nonneg (by grind) (by grind)
  have e1 : (e - d) * (k + w) + (e + d) * (k - w) = 2 * (e * k) - 2 * (d * w) := by grind
  have e2 : (e - d) * (k - w) + (e + d) * (k + w) = 2 * (e * k) + 2 * (d * w) := by grind
  constructor <;> grind
structure Near (x : UInt64) (n : Int) : Prop where
  fin : IsFin x
  up : 256 * rv x ≤ (n : Rat) + 1 / 4
  dn : (n : Rat) ≤ 256 * rv x + 1 / 4
theorem Near.to {x : UInt64} {n n' : Int} (h : Near x n) (e : n = n') : Near x n' := e ▸ h
theorem chan {v s w : UInt64} {M R : Rat} (fv : IsFin v) (fs : IsFin s) (fw : IsFin w) (hv : 256 * rv v = M) (hM0 : 0 ≤ M) (hM : M ≤ 256) (hs0 : 0 ≤ rv s) (hs1 : rv s ≤ 1 + ep)
    (hs2 : M * rv s ≤ R + M * ep) (hs3 : R ≤ M * rv s + M * ep) (hw0 : -(2 * ep) ≤ rv w) (hw1 : rv w ≤ 1 + 2 * ep) :
    IsFin (mul v (sub 4607182418800017408 (mul s w))) ∧ 256 * rv (mul v (sub 4607182418800017408 (mul s w))) ≤ M - R * rv w + 1 / 100000 ∧ M - R * rv w ≤ 256 * rv (mul v (sub 4607182418800017408 (mul s w))) + 1 / 100000 := by
  have hs := ep_small
  have hp := ep_pos
  have r1 := one_rv
  have ⟨g1, g2⟩ := absmul (d := rv s) (w := rv w) (e := 2) (k := 2) (by grind) (by grind) (by grind) (by grind)
  have ⟨f1, a1, a2, _⟩ := mulE fs fw (by grind) (by grind)
  have ⟨f2, b1, b2, _, _⟩ := subE one_fin f1 (by rw [r1]; grind) (by rw [r1]; grind)
  rw [r1] at b1 b2
  generalize mul s w = sw at *
  generalize sub 4607182418800017408 sw = o at *
  have ⟨g3, g4⟩ := absmul (d := rv v) (w := rv o) (e := 1) (k := 7) (by grind) (by grind) (by grind) (by grind)
  have ⟨f3, c1, c2, _⟩ := mulE fv f2 (by grind) (by grind)
  have ⟨g5, g6⟩ := absmul (d := M * rv s - R) (w := rv w) (e := 256 * ep) (k := 2) (by have := scale (r := ep) (by grind) hM; grind) (by have := scale (r := ep) (by grind) hM; grind) (by grind) (by grind)
  have hMe := scale (r := ep) (by grind) hM
  have hMe0 : 0 ≤ ep * M := Rat.mul_nonneg (by grind) hM0
  have s1 := scale hM0 b1
  have s2 := scale hM0 b2
  have s3 := scale hM0 a1
  have s4 := scale hM0 a2
  generalize rv (mul v o) = q at *
  have e1 : M * (1 - rv sw + ep) = M - M * rv sw + ep * M := by grind
  have e2 : M * (1 - rv sw) = M - M * rv sw := by grind
  have e3 : M * (rv o + ep) = M * rv o + ep * M := by grind
  have e4 : M * (rv s * rv w + ep) = M * rv s * rv w + ep * M := by grind
  have e5 : M * (rv s * rv w) = M * rv s * rv w := by grind
  have e6 : M * (rv sw + ep) = M * rv sw + ep * M := by grind
  have e7 : (M * rv s - R) * rv w = M * rv s * rv w - R * rv w := by grind
  have e8 : 256 * (rv v * rv o) = M * rv o := by rw [← hv]; grind
  rw [e1] at s1
  rw [e2, e3] at s2
  rw [e4] at s3
  rw [e5, e6] at s4
  rw [e7] at g5 g6
  generalize M * rv s * rv w = x1 at *
  generalize R * rv w = x2 at *
  generalize M * rv sw = x3 at *
  generalize M * rv o = x4 at *
  generalize rv v * rv o = x5 at *
  generalize ep * M = x6 at *
  refine ⟨f3, ?_, ?_⟩
  · grind
  · grind
theorem chanP {v s : UInt64} {M R : Rat} (fv : IsFin v) (fs : IsFin s) (hv : 256 * rv v = M) (hM0 : 0 ≤ M) (hM : M ≤ 256) (hs0 : 0 ≤ rv s) (hs1 : rv s ≤ 1 + ep)
    (hs2 : M * rv s ≤ R + M * ep) (hs3 : R ≤ M * rv s + M * ep) :
    IsFin (mul v (sub 4607182418800017408 s)) ∧ 256 * rv (mul v (sub 4607182418800017408 s)) ≤ M - R + 1 / 100000 ∧ M - R ≤ 256 * rv (mul v (sub 4607182418800017408 s)) + 1 / 100000 := by
  have hs := ep_small
  have hp := ep_pos
  have r1 := one_rv
  have ⟨f2, b1, b2, _, _⟩ := subE one_fin fs (by rw [r1]; grind) (by rw [r1]; grind)
  rw [r1] at b1 b2
  generalize sub 4607182418800017408 s = o at *
  have ⟨g3, g4⟩ := absmul (d := rv v) (w := rv o) (e := 1) (k := 7) (by grind) (by grind) (by grind) (by grind)
  have ⟨f3, c1, c2, _⟩ := mulE fv f2 (by grind) (by grind)
  have hMe := scale (r := ep) (by grind) hM
  have s1 := scale hM0 b1
  have s2 := scale hM0 b2
  generalize rv (mul v o) = q at *
  have e1 : M * (1 - rv s + ep) = M - M * rv s + ep * M := by grind
  have e2 : M * (1 - rv s) = M - M * rv s := by grind
  have e3 : M * (rv o + ep) = M * rv o + ep * M := by grind
  have e4 : M * ep = ep * M := by grind
  have e8 : 256 * (rv v * rv o) = M * rv o := by rw [← hv]; grind
  rw [e1] at s1
  rw [e2, e3] at s2
  rw [e4] at hs2 hs3
  generalize M * rv s = x3 at *
  generalize M * rv o = x4 at *
  generalize rv v * rv o = x5 at *
  generalize ep * M = x6 at *
  refine ⟨f3, ?_, ?_⟩
  · grind
  · grind
theorem ilt {a b : Int} (h : (a : Rat) < (b : Rat)) : a < b := Rat.intCast_lt_intCast.mp h
theorem pz (x y : Int) : x = y + (x - y) := by lia
/-- the hexagon: greatest, least, and one between -/
theorem norm6 {a b c M m D : Int} (gM : a ≤ M ∧ b ≤ M ∧ c ≤ M) (om : m = a ∨ m = b ∨ m = c) (gm : m ≤ a ∧ m ≤ b ∧ m ≤ c) (hlt : m < M)
    (hD : (a = M ∧ D = b - c) ∨ (b = M ∧ D = 2 * (M - m) + c - a) ∨ (c = M ∧ D = 4 * (M - m) + a - b)) :
    ∃ e R, 0 ≤ e ∧ e ≤ R ∧ 1 ≤ R ∧ M = m + R ∧
      ((a = m + R ∧ b = m + e ∧ c = m ∧ D = 0 * R + e) ∨ (a = m + R ∧ b = m ∧ c = m + e ∧ D = 0 * R - e) ∨ (a = m + e ∧ b = m + R ∧ c = m ∧ D = 2 * R - e) ∨
        (a = m ∧ b = m + R ∧ c = m + e ∧ D = 2 * R + e) ∨ (a = m ∧ b = m + e ∧ c = m + R ∧ D = 4 * R - e) ∨ (a = m + e ∧ b = m ∧ c = m + R ∧ D = 4 * R + e)) := by
  obtain ⟨g1, g2, g3⟩ := gM
  obtain ⟨k1, k2, k3⟩ := gm
  have one : 1 ≤ M - m := by lia
  have nn : ∀ {x y : Int}, y ≤ x → 0 ≤ x - y := fun h => Int.sub_nonneg_of_le h
  have z1 : ∀ x y : Int, x - y = 0 * (M - m) + (x - y) := by lia
  have z2 : ∀ x y : Int, x - y = 0 * (M - m) - (y - x) := by lia
  have d1 : ∀ k x y : Int, k + x - y = k - (y - x) := by lia
  have d2 : ∀ k x y : Int, k + x - y = k + (x - y) := by lia
  rcases hD with ⟨h, hD⟩ | ⟨h, hD⟩ | ⟨h, hD⟩ <;> rcases om with q | q | q
  · exact absurd (q.trans h) (Int.ne_of_lt hlt)
  · exact ⟨c - m, M - m, nn k3, Int.sub_le_sub_right g3 m, one, pz M m, .inr (.inl ⟨h.trans (pz M m), q.symm, pz c m, by rw [hD, ← q]; exact z2 m c⟩)⟩
  · exact ⟨b - m, M - m, nn k2, Int.sub_le_sub_right g2 m, one, pz M m, .inl ⟨h.trans (pz M m), pz b m, q.symm, by rw [hD, ← q]; exact z1 b m⟩⟩
  · exact ⟨c - m, M - m, nn k3, Int.sub_le_sub_right g3 m, one, pz M m, .inr (.inr (.inr (.inl ⟨q.symm, h.trans (pz M m), pz c m, by rw [hD, ← q]; exact d2 _ c m⟩)))⟩
  · exact absurd (q.trans h) (Int.ne_of_lt hlt)
  · exact ⟨a - m, M - m, nn k1, Int.sub_le_sub_right g1 m, one, pz M m, .inr (.inr (.inl ⟨pz a m, h.trans (pz M m), q.symm, by rw [hD, ← q]; exact d1 _ m a⟩))⟩
  · exact ⟨b - m, M - m, nn k2, Int.sub_le_sub_right g2 m, one, pz M m, .inr (.inr (.inr (.inr (.inl ⟨q.symm, pz b m, h.trans (pz M m), by rw [hD, ← q]; exact d1 _ m b⟩))))⟩
  · exact ⟨a - m, M - m, nn k1, Int.sub_le_sub_right g1 m, one, pz M m, .inr (.inr (.inr (.inr (.inr ⟨pz a m, q.symm, h.trans (pz M m), by rw [hD, ← q]; exact d2 _ a m⟩))))⟩
  · exact absurd (q.trans h) (Int.ne_of_lt hlt)
theorem kmul (R e w k : Int) : k * R + e + R * w = e + R * (w + k) := by rw [Int.mul_add, Int.mul_comm R k]; lia
theorem kmul' (R e w k : Int) : k * R - e + R * w = -e + R * (w + k) := by rw [Int.mul_add, Int.mul_comm R k]; lia
theorem bds {R v lo hi : Int} (hR : 1 ≤ R) (h1 : R * lo ≤ R * v) (h2 : R * v ≤ R * hi) : lo ≤ v ∧ v ≤ hi :=
  ⟨Int.le_of_mul_le_mul_left h1 (by lia), Int.le_of_mul_le_mul_left h2 (by lia)⟩
theorem stepP {R e E u k : Int} (h0 : 0 ≤ e) (hR : e ≤ R) (h1 : 1 ≤ R) (hE : E = k * R + e + R * u) (hE0 : 0 ≤ E) (hE1 : E ≤ R) :
    (u = -1 - k ∧ e = R ∧ E = 0) ∨ (u = -k ∧ E = e) ∨ (u = 1 - k ∧ e = 0 ∧ E = R) := by
  rw [kmul] at hE
  have ⟨l1, l2⟩ := bds (v := u + k) (lo := -1) (hi := 1) h1 (by lia) (by lia)
  have : u + k = -1 ∨ u + k = 0 ∨ u + k = 1 := by lia
  rcases this with h | h | h <;> rw [h] at hE
  · exact .inl ⟨by lia, by lia, by lia⟩
  · exact .inr (.inl ⟨by lia, by lia⟩)
  · exact .inr (.inr ⟨by lia, by lia, by lia⟩)
theorem stepM {R e E u k : Int} (h0 : 0 ≤ e) (hR : e ≤ R) (h1 : 1 ≤ R) (hE : E = k * R - e + R * u) (hE0 : 0 ≤ E) (hE1 : E ≤ R) :
    (u = -k ∧ e = 0 ∧ E = 0) ∨ (u = 1 - k ∧ E = R - e) ∨ (u = 2 - k ∧ e = R ∧ E = R) := by
  rw [kmul'] at hE
  have ⟨l1, l2⟩ := bds (v := u + k) (lo := 0) (hi := 2) h1 (by lia) (by lia)
  have : u + k = 0 ∨ u + k = 1 ∨ u + k = 2 := by lia
  rcases this with h | h | h <;> rw [h] at hE
  · exact .inl ⟨by lia, by lia, by lia⟩
  · exact .inr (.inl ⟨by lia, by lia⟩)
  · exact .inr (.inr ⟨by lia, by lia, by lia⟩)
/-- a sector's triple: 0 the greatest, 1 the least, 2 falling, 3 rising -/
def secI (k : Int) : Tri Nat := if k = 0 then (0, 3, 1) else if k = 1 then (2, 0, 1) else if k = 2 then (1, 0, 3) else if k = 3 then (1, 2, 0) else if k = 4 then (3, 1, 0) else (0, 1, 2)
def val4 {α : Type} (V p q r : α) (i : Nat) : α := if i = 0 then V else if i = 1 then p else if i = 2 then q else r
theorem sec_turn : ∀ t : Fin 3, ∀ j : Fin 6, ∀ w : Fin 8, ((j.1 : Int) - 2 * (t.1 : Int) + ((w.1 : Int) - 5)) % 6 = 0 → secI (j.1 : Int) = rotP (t.1 : Int) (secI ((-((w.1 : Int) - 5)) % 6)) := by decide +kernel
theorem rotP_map {α β : Type} (f : α → β) (t : Int) (P : Tri α) : rotP t (mapT f P) = mapT f (rotP t P) := by
  unfold rotP; split
  · rfl
  · split <;> rfl
theorem base6 {a b c M m D u E : Int} (gM : a ≤ M ∧ b ≤ M ∧ c ≤ M) (om : m = a ∨ m = b ∨ m = c) (gm : m ≤ a ∧ m ≤ b ∧ m ≤ c) (hlt : m < M)
    (hD : (a = M ∧ D = b - c) ∨ (b = M ∧ D = 2 * (M - m) + c - a) ∨ (c = M ∧ D = 4 * (M - m) + a - b)) (hE : E = D + (M - m) * u) (hE0 : 0 ≤ E) (hE1 : E ≤ M - m) :
    (0 ≤ u + 5 ∧ u + 5 < 8) ∧ (a, b, c) = mapT (val4 M m (M - E) (m + E)) (secI ((-u) % 6)) := by
  obtain ⟨e, R, he0, heR, hR, rfl, hp⟩ := norm6 gM om gm hlt hD
  clear gM om gm hlt hD
  have eR : m + R - m = R := by lia
  have eX : ∀ x : Int, m + R - (R - x) = m + x := by lia
  have eM : m + R - R = m := by lia
  rw [eR] at hE hE1
  rcases hp with ⟨rfl, rfl, rfl, rfl⟩ | ⟨rfl, rfl, rfl, rfl⟩ | ⟨rfl, rfl, rfl, rfl⟩ | ⟨rfl, rfl, rfl, rfl⟩ | ⟨rfl, rfl, rfl, rfl⟩ | ⟨rfl, rfl, rfl, rfl⟩
  all_goals
    first
    | (rcases stepP he0 heR hR hE hE0 hE1 with ⟨rfl, h, h'⟩ | ⟨rfl, h⟩ | ⟨rfl, h, h'⟩)
    | (rcases stepM he0 heR hR hE hE0 hE1 with ⟨rfl, h, h'⟩ | ⟨rfl, h⟩ | ⟨rfl, h, h'⟩)
  all_goals
    refine ⟨by decide, ?_⟩
    clear hE hE0 hE1 he0 heR hR
    first
    | (rw [h, h']; simp only [Int.add_zero, Int.sub_zero, eM, eX]; rfl)
    | (rw [h]; simp only [eX]; rfl)
    | (rw [h]; rfl)
    | (simp only [h, h', Int.add_zero, Int.sub_zero, eM]; rfl)
theorem near4 {V p q r : UInt64} {M m f g : Int} (nV : Near V M) (np : Near p m) (nq : Near q f) (nr : Near r g) (i : Nat) : Near (val4 V p q r i) (val4 M m f g i) := by
  unfold val4
  by_cases h0 : i = 0
  · rw [if_pos h0, if_pos h0]; exact nV
  rw [if_neg h0, if_neg h0]
  by_cases h1 : i = 1
  · rw [if_pos h1, if_pos h1]; exact np
  rw [if_neg h1, if_neg h1]
  by_cases h2 : i = 2
  · rw [if_pos h2, if_pos h2]; exact nq
  rw [if_neg h2, if_neg h2]; exact nr
theorem chain4 (V p q r : UInt64) : ∀ j : Int, (if j = 0 then (V, r, p) else if j = 1 then (q, V, p) else if j = 2 then (p, V, r) else if j = 3 then (p, q, V) else if j = 4 then (r, p, V) else (V, p, q)) = mapT (val4 V p q r) (secI j) := by
  intro j
  unfold secI
  by_cases h0 : j = 0
  · rw [if_pos h0, if_pos h0]; rfl
  rw [if_neg h0, if_neg h0]
  by_cases h1 : j = 1
  · rw [if_pos h1, if_pos h1]; rfl
  rw [if_neg h1, if_neg h1]
  by_cases h2 : j = 2
  · rw [if_pos h2, if_pos h2]; rfl
  rw [if_neg h2, if_neg h2]
  by_cases h3 : j = 3
  · rw [if_pos h3, if_pos h3]; rfl
  rw [if_neg h3, if_neg h3]
  by_cases h4 : j = 4
  · rw [if_pos h4, if_pos h4]; rfl
  rw [if_neg h4, if_neg h4]; rfl
/-- the six sides of the hexagon -/
theorem six_sides {V p q r : UInt64} {a b c M m D t u j E : Int} (oM : M = a ∨ M = b ∨ M = c) (gM : a ≤ M ∧ b ≤ M ∧ c ≤ M) (om : m = a ∨ m = b ∨ m = c) (gm : m ≤ a ∧ m ≤ b ∧ m ≤ c) (hlt : m < M)
    (hD : (a = M ∧ D = b - c) ∨ (b = M ∧ D = 2 * (M - m) + c - a) ∨ (c = M ∧ D = 4 * (M - m) + a - b))
    (ht : 0 ≤ t) (ht2 : t ≤ 2) (hj : 0 ≤ j) (hj2 : j ≤ 5) (hu : ∃ n : Int, u = 6 * n + 2 * t - j) (hE : E = D + (M - m) * u) (hE0 : 0 ≤ E) (hE1 : E ≤ M - m)
    (nV : Near V M) (np : Near p m) (nq : Near q (M - E)) (nr : Near r (m + E)) :
    ∃ X Y Z, (if j = 0 then (V, r, p) else if j = 1 then (q, V, p) else if j = 2 then (p, V, r) else if j = 3 then (p, q, V) else if j = 4 then (r, p, V) else (V, p, q)) = ((X, Y, Z) : T3) ∧
      Near X (rotP t (a, b, c)).1 ∧ Near Y (rotP t (a, b, c)).2.1 ∧ Near Z (rotP t (a, b, c)).2.2 := by
  have ⟨⟨u1, u2⟩, hb⟩ := base6 gM om gm hlt hD hE hE0 hE1
  clear oM gM om gm hlt hD hE hE0 hE1
  obtain ⟨n, hn⟩ := hu
  have hm : (j - 2 * t + (u + 5 - 5)) % 6 = 0 := by lia
  have e5 : u = u + 5 - 5 := by lia
  rw [e5] at hb
  clear e5 hn
  generalize u + 5 = w at *
  obtain ⟨t', rfl⟩ := Int.eq_ofNat_of_zero_le ht
  obtain ⟨j', rfl⟩ := Int.eq_ofNat_of_zero_le hj
  obtain ⟨w', rfl⟩ := Int.eq_ofNat_of_zero_le u1
  have h := sec_turn ⟨t', by lia⟩ ⟨j', by lia⟩ ⟨w', by lia⟩ hm
  dsimp only at h
  rw [hb, rotP_map, ← h, chain4]
  exact ⟨_, _, _, rfl, near4 nV np nq nr _, near4 nV np nq nr _, near4 nV np nq nr _⟩
end Mine
end
/-! FT7 -/
section
open PySem PySem.Float64
set_option maxRecDepth 100000
set_option maxHeartbeats 0
namespace Mine
theorem kF_near {n : Int} (h0 : 0 ≤ n) (h1 : n ≤ 256) : Near (kF n) n := by
  have ⟨f, v⟩ := kF_is h0 h1
  have := rv_ex v
  exact ⟨f, by grind, by grind⟩
/-- back from hue, saturation and value -/
theorem hsv_back {a b c M m D z t : Int} {H : UInt64} (h0 : 0 ≤ m) (h3 : M ≤ 256) (oM : M = a ∨ M = b ∨ M = c) (gM : a ≤ M ∧ b ≤ M ∧ c ≤ M) (om : m = a ∨ m = b ∨ m = c) (gm : m ≤ a ∧ m ≤ b ∧ m ≤ c) (hlt : m < M)
    (hD : (a = M ∧ D = b - c) ∨ (b = M ∧ D = 2 * (M - m) + c - a) ∨ (c = M ∧ D = 4 * (M - m) + a - b))
    (ht : 0 ≤ t) (ht2 : t ≤ 2) (fH : IsFin H) (H0 : 0 ≤ rv H) (H1 : rv H < 1)
    (k1 : 6 * (((M - m : Int) : Rat) * rv H) ≤ (D : Rat) + 6 * (((M - m : Int) : Rat) * (z : Rat)) + 20 * (((M - m : Int) : Rat) * ep))
    (k2 : (D : Rat) + 6 * (((M - m : Int) : Rat) * (z : Rat)) ≤ 6 * (((M - m : Int) : Rat) * rv H) + 20 * (((M - m : Int) : Rat) * ep)) :
    BackOk (add H (thF t)) (div (sub (kF M) (kF m)) (kF M)) ∧ ∃ X Y Z, hsvToF (add H (thF t)) (div (sub (kF M) (kF m)) (kF M)) (kF M) = (X, Y, Z) ∧
      Near X (rotP t (a, b, c)).1 ∧ Near Y (rotP t (a, b, c)).2.1 ∧ Near Z (rotP t (a, b, c)).2.2 := by
  have hs := ep_small
  have hp := ep_pos
  have hs2 := e2_small
  have hp2 : 0 < e2 := by unfold e2; grind
  have ⟨fM, vM⟩ := kF_is (a := M) (by lia) h3
  have ⟨fm, vm⟩ := kF_is (a := m) h0 (by lia)
  have ⟨fy, vy⟩ := sub_exact fM fm vM vm (c := M - m) rfl (by lia)
  have rM := rv_ex vM
  have ry := rv_ex vy
  have R1 : (1 : Rat) ≤ ((M - m : Int) : Rat) := ile (show (1 : Int) ≤ M - m by lia)
  have R2 : ((M - m : Int) : Rat) ≤ 256 := ile (show (M - m : Int) ≤ 256 by lia)
  have M1 : (1 : Rat) ≤ (M : Rat) := ile (show (1 : Int) ≤ M by lia)
  have M2 : (M : Rat) ≤ 256 := ile h3
  have RM : ((M - m : Int) : Rat) ≤ (M : Rat) := ile (show M - m ≤ M by lia)
  have t1 : (t : Rat) ≤ 2 := ile ht2
  -- saturation
  have ⟨fS, d1, d2, d3⟩ := divE fy fM (by grind) (by grind) (by grind)
  generalize hS : div (sub (kF M) (kF m)) (kF M) = S at *
  generalize sub (kF M) (kF m) = Ym at *
  have eS : rv (kF M) * rv S = (M : Rat) * rv S / 256 := by rw [← rM]; grind
  have eS' : rv (kF M) * ep = (M : Rat) * ep / 256 := by rw [← rM]; grind
  rw [eS, eS'] at d1 d2
  have S1 : (M : Rat) * rv S ≤ ((M - m : Int) : Rat) + (M : Rat) * ep := by clear k1 k2; grind
  have S2 : ((M - m : Int) : Rat) ≤ (M : Rat) * rv S + (M : Rat) * ep := by clear k1 k2; grind
  have S0 : 0 ≤ rv S := d3 (by grind)
  have S3 : rv S ≤ 1 + ep := by
    apply cancel (r := (M : Rat)) (by grind)
    have : (M : Rat) * (1 + ep) = (M : Rat) + (M : Rat) * ep := by grind
    rw [this]; clear k1 k2; grind
  have hMe : (M : Rat) * ep ≤ 256 * ep := by
    have := scale (r := ep) (by grind) M2
    rw [Rat.mul_comm, Rat.mul_comm 256]; exact this
  have hRe : ((M - m : Int) : Rat) * ep ≤ 256 * ep := by
    have := scale (r := ep) (by grind) R2
    rw [Rat.mul_comm, Rat.mul_comm 256]; exact this
  have hRe2 : ((M - m : Int) : Rat) * e2 ≤ 256 * e2 := by
    have := scale (r := e2) (by grind) R2
    rw [Rat.mul_comm, Rat.mul_comm 256]; exact this
  clear d1 d2 d3 eS eS' hS
  have Sz : (cmp S 0 == some .eq) = false := by
    cases hq : (cmp S 0 == some .eq) with
    | false => rfl
    | true =>
      exfalso
      have := (eq_fin fS zro_is.1).mp hq
      rw [zro_is.2.1] at this
      have hr : rv S = 0 := by unfold rv; rw [this]; simp
      rw [hr, Rat.mul_zero] at S2
      clear k1 k2; grind
  -- the turned hue
  have ⟨fT, T1, T2, T0⟩ := thF_is ht (by lia)
  generalize thF t = th at *
  have ⟨fA, A1, A2, A3, _⟩ := addE fH fT (by clear k1 k2; grind) (by clear k1 k2; grind)
  generalize add H th = A at *
  have ⟨f6, r6⟩ := six_is
  have A0 : 0 ≤ rv A := A3 (by clear k1 k2; grind)
  have A5 : rv A ≤ 17 / 10 := by clear k1 k2; grind
  have ⟨fG, G1, G2, G0⟩ := mul_rat (N := 1024) (by decide) N1024 e21031 fA f6 (by rw [r6]; clear k1 k2; grind) (by rw [r6]; clear k1 k2; grind)
  rw [r6] at G1 G2 G0
  have G0 := G0 A0 (by grind)
  refine ⟨fun _ => ⟨nan_fin fG, inf_fin fG, ?_⟩, ?_⟩
  · have ⟨i1, i2⟩ := trunc_rv fG G0
    generalize mul A 4618441417868443648 = G at *
    generalize Flt.toInt truncOf G = i at *
    have l1 : i < 12 := ilt (show (i : Rat) < ((12 : Int) : Rat) by show (i : Rat) < 12; clear k1 k2; grind)
    have l2 : -1 < i := ilt (show ((-1 : Int) : Rat) < (i : Rat) by show (-1 : Rat) < i; clear k1 k2; grind)
    have : i.natAbs < 16 := by lia
    exact Nat.lt_trans this (by decide +kernel)
  · have ⟨i1, i2⟩ := trunc_rv fG G0
    rw [hsvToF_k Sz _ rfl]
    unfold qF tF pF fF iF
    generalize mul A 4618441417868443648 = G at *
    generalize hi : Flt.toInt truncOf G = i at *
    have l1 : i < 12 := ilt (show (i : Rat) < ((12 : Int) : Rat) by show (i : Rat) < 12; clear k1 k2; grind)
    have l2 : -1 < i := ilt (show ((-1 : Int) : Rat) < (i : Rat) by show (-1 : Rat) < i; clear k1 k2; grind)
    have ⟨fI, rI⟩ := ofI_is (i := i) (by lia) (by lia)
    have ⟨fF, F1, F2, F0, _⟩ := subE fG fI (by rw [rI]; clear k1 k2; grind) (by rw [rI]; clear k1 k2; grind)
    rw [rI] at F1 F2 F0
    generalize sub G (ofInt i) = F at *
    have F0 := F0 (by clear k1 k2; grind)
    have F3 : rv F ≤ 1 + ep := by clear k1 k2; grind
    have r1 := one_rv
    have ⟨fK, K1, K2, _, _⟩ := subE one_fin fF (by rw [r1]; clear k1 k2; grind) (by rw [r1]; clear k1 k2; grind)
    rw [r1] at K1 K2
    generalize sub 4607182418800017408 F = K at *
    have ⟨pf, p1, p2⟩ := chanP fM fS rM (by grind) M2 S0 S3 S1 S2
    have ⟨qf, q1, q2⟩ := chan fM fS fF rM (by grind) M2 S0 S3 S1 S2 (by clear k1 k2; grind) (by clear k1 k2; grind)
    have ⟨tf, u1, u2⟩ := chan fM fS fK rM (by grind) M2 S0 S3 S1 S2 (by clear k1 k2; grind) (by clear k1 k2; grind)
    -- the way along the hexagon
    have w1 := scale (r := ((M - m : Int) : Rat)) (by grind) G1
    have w2 := scale (r := ((M - m : Int) : Rat)) (by grind) G2
    have w3 := scale (r := ((M - m : Int) : Rat)) (by grind) A1
    have w4 := scale (r := ((M - m : Int) : Rat)) (by grind) A2
    have w5 := scale (r := ((M - m : Int) : Rat)) (by grind) T1
    have w6 := scale (r := ((M - m : Int) : Rat)) (by grind) T2
    have w7 := scale (r := ((M - m : Int) : Rat)) (by grind) F1
    have w8 := scale (r := ((M - m : Int) : Rat)) (by grind) F2
    have w9 := scale (r := ((M - m : Int) : Rat)) (by grind) K1
    have w10 := scale (r := ((M - m : Int) : Rat)) (by grind) K2
    have w11 := scale (r := ((M - m : Int) : Rat)) (by grind) F3
    have w12 := scale (r := ((M - m : Int) : Rat)) (by grind) F0
    obtain ⟨E, hE⟩ : ∃ E : Int, E = D + (M - m) * (6 * z + 2 * t - i) := ⟨_, rfl⟩
    have cE : (E : Rat) = (D : Rat) + 6 * (((M - m : Int) : Rat) * (z : Rat)) + 2 * (((M - m : Int) : Rat) * (t : Rat)) - ((M - m : Int) : Rat) * (i : Rat) := by
      rw [hE, Rat.intCast_add, Rat.intCast_mul, Rat.intCast_sub (6 * z + 2 * t), Rat.intCast_add, Rat.intCast_mul, Rat.intCast_mul]
      have c6 : ((6 : Int) : Rat) = 6 := rfl
      have c2 : ((2 : Int) : Rat) = 2 := rfl
      rw [c6, c2]
      generalize ((M - m : Int) : Rat) = R
      grind
    have eMm : (M : Rat) - ((M - m : Int) : Rat) = (m : Rat) := by rw [← Rat.intCast_sub]; congr 1; lia
    have cME : ((M - E : Int) : Rat) = (M : Rat) - (E : Rat) := Rat.intCast_sub _ _
    have cmE : ((m + E : Int) : Rat) = (m : Rat) + (E : Rat) := Rat.intCast_add _ _
    generalize hR : ((M - m : Int) : Rat) = R at *
    have x1 : R * (rv A * 6 + e2) = 6 * (R * rv A) + R * e2 := by grind
    have x2 : R * (rv A * 6) = 6 * (R * rv A) := by grind
    have x3 : R * (rv G + e2) = R * rv G + R * e2 := by grind
    have x4 : R * (rv H + rv th + ep) = R * rv H + R * rv th + R * ep := by grind
    have x5 : R * (rv H + rv th) = R * rv H + R * rv th := by grind
    have x6 : R * (rv A + ep) = R * rv A + R * ep := by grind
    have x7 : R * (3 * rv th) = 3 * (R * rv th) := by grind
    have x8 : R * ((t : Rat) + ep) = R * (t : Rat) + R * ep := by grind
    have x9 : R * (3 * rv th + ep) = 3 * (R * rv th) + R * ep := by grind
    have x10 : R * (rv G - (i : Rat) + ep) = R * rv G - R * (i : Rat) + R * ep := by grind
    have x11 : R * (rv G - (i : Rat)) = R * rv G - R * (i : Rat) := by grind
    have x12 : R * (rv F + ep) = R * rv F + R * ep := by grind
    have x13 : R * (1 - rv F + ep) = R - R * rv F + R * ep := by grind
    have x14 : R * (1 - rv F) = R - R * rv F := by grind
    have x15 : R * (rv K + ep) = R * rv K + R * ep := by grind
    have x16 : R * (1 + ep) = R + R * ep := by grind
    rw [x1] at w1
    rw [x2, x3] at w2
    rw [x4] at w3
    rw [x5, x6] at w4
    rw [x7, x8] at w5
    rw [x9] at w6
    rw [x10] at w7
    rw [x11, x12] at w8
    rw [x13] at w9
    rw [x14, x15] at w10
    rw [x16] at w11
    rw [Rat.mul_zero] at w12
    clear x1 x2 x3 x4 x5 x6 x7 x8 x9 x10 x11 x12 x13 x14 x15 x16 S1 S2 A1 A2 T1 T2 G1 G2 F1 F2 K1 K2 eMm
    have near1 : R * rv F ≤ (E : Rat) + 1 / 1000 := by
      rw [cE]
      generalize R * rv F = y1 at *
      generalize R * rv G = y2 at *
      generalize R * rv A = y3 at *
      generalize R * rv H = y4 at *
      generalize R * rv th = y5 at *
      generalize R * rv K = y6 at *
      generalize R * (i : Rat) = y7 at *
      generalize R * (t : Rat) = y8 at *
      generalize R * (z : Rat) = y9 at *
      generalize R * ep = y10 at *
      generalize R * e2 = y11 at *
      clear q1 q2 u1 u2 p1 p2
      grind
    have near2 : (E : Rat) ≤ R * rv F + 1 / 1000 := by
      rw [cE]
      generalize R * rv F = y1 at *
      generalize R * rv G = y2 at *
      generalize R * rv A = y3 at *
      generalize R * rv H = y4 at *
      generalize R * rv th = y5 at *
      generalize R * rv K = y6 at *
      generalize R * (i : Rat) = y7 at *
      generalize R * (t : Rat) = y8 at *
      generalize R * (z : Rat) = y9 at *
      generalize R * ep = y10 at *
      generalize R * e2 = y11 at *
      clear q1 q2 u1 u2 p1 p2
      grind
    clear w1 w2 w3 w4 w5 w6 w7 w8 k1 k2
    have E0 : 0 ≤ E := by
      have : (-1 : Int) < E := ilt (show ((-1 : Int) : Rat) < (E : Rat) by show (-1 : Rat) < (E : Rat); grind)
      lia
    have E1 : E ≤ M - m := by
      have : E < M - m + 1 := ilt (by
        rw [Rat.intCast_add, hR]
        show (E : Rat) < R + 1
        grind)
      lia
    have hj0 : 0 ≤ i % 6 := Int.emod_nonneg _ (by decide)
    have hj1 : i % 6 < 6 := Int.emod_lt_of_pos _ (by decide)
    have ej : i.fmod 6 = i % 6 := Int.fmod_eq_emod_of_nonneg i (by decide)
    rw [ej]
    have emM : (m : Rat) = (M : Rat) - R := by
      have : (M : Rat) - ((M - m : Int) : Rat) = (m : Rat) := by rw [← Rat.intCast_sub]; congr 1; lia
      rw [hR] at this; exact this.symm
    refine six_sides (E := E) (u := 6 * z + 2 * t - i) oM gM om gm hlt hD ht ht2 hj0 (by lia) ⟨z - i / 6, by lia⟩ hE E0 E1 (kF_near (by lia) h3) ⟨pf, ?_, ?_⟩ ⟨qf, ?_, ?_⟩ ⟨tf, ?_, ?_⟩
    · grind
    · grind
    · rw [cME]; grind
    · rw [cME]; grind
    · rw [cmE]; grind
    · rw [cmE]; grind
end Mine
end
/-! FT8 -/
section
open PySem PySem.Float64
set_option maxRecDepth 100000
set_option maxHeartbeats 0
namespace Mine
structure Close (x : UInt64) (n : Int) : Prop where
  fin : IsFin x
  up : 256 * rv x ≤ (n : Rat) + 1 / 10000
  dn : (n : Rat) ≤ 256 * rv x + 1 / 10000
theorem Close.near {x : UInt64} {n : Int} (h : Close x n) : Near x n := ⟨h.fin, by have := h.up; grind, by have := h.dn; grind⟩
theorem slope {m1 m2 k : UInt64} {M m : Int} (h0 : 0 ≤ m) (h3 : M ≤ 256) (hlt : m < M) (c1 : Close m1 m) (c2 : Close m2 M) (fk : IsFin k) (k0 : -(ep) ≤ rv k) (k1 : rv k ≤ 1 / 4) (Y : Int)
    (y1 : 6 * (((M - m : Int) : Rat) * rv k) ≤ (Y : Rat) + 1 / 100) (y2 : (Y : Rat) ≤ 6 * (((M - m : Int) : Rat) * rv k) + 1 / 100) :
    Near (add m1 (mul (mul (sub m2 m1) k) 4618441417868443648)) (m + Y) := by
  have hs := ep_small
  have hp := ep_pos
  obtain ⟨f1, a1, a2⟩ := c1
  obtain ⟨f2, b1, b2⟩ := c2
  have ⟨f6, r6⟩ := six_is
  have M2 : (M : Rat) ≤ 256 := ile h3
  have m0 : (0 : Rat) ≤ (m : Rat) := ile h0
  have mM : (m : Rat) ≤ (M : Rat) := ile (show m ≤ M by lia)
  have ⟨fd, d1, d2, _, _⟩ := subE f2 f1 (by clear y1 y2; grind) (by clear y1 y2; grind)
  have cR : ((M - m : Int) : Rat) = (M : Rat) - (m : Rat) := Rat.intCast_sub _ _
  rw [cR] at y1 y2
  generalize sub m2 m1 = d at *
  have ⟨g1, g2⟩ := absmul (d := rv d) (w := rv k) (e := 2) (k := 1 / 4) (by clear y1 y2; grind) (by clear y1 y2; grind) (by clear y1 y2; grind) (by clear y1 y2; grind)
  have ⟨fx, x1, x2, _⟩ := mulE fd fk (by clear y1 y2; grind) (by clear y1 y2; grind)
  generalize mul d k = x at *
  have ⟨fz, z1, z2, _⟩ := mulE fx f6 (by rw [r6]; clear y1 y2; grind) (by rw [r6]; clear y1 y2; grind)
  rw [r6] at z1 z2
  generalize mul x 4618441417868443648 = zz at *
  have ⟨fw, w1, w2, _, _⟩ := addE f1 fz (by clear y1 y2; grind) (by clear y1 y2; grind)
  have ⟨g3, g4⟩ := absmul (d := 256 * rv d - ((M : Rat) - (m : Rat))) (w := rv k) (e := 1 / 1000) (k := 1 / 4) (by clear y1 y2; grind) (by clear y1 y2; grind) (by clear y1 y2; grind) (by clear y1 y2; grind)
  have e1 : (256 * rv d - ((M : Rat) - (m : Rat))) * rv k = 256 * (rv d * rv k) - ((M : Rat) - (m : Rat)) * rv k := by grind
  rw [e1] at g3 g4
  have cY : ((m + Y : Int) : Rat) = (m : Rat) + (Y : Rat) := Rat.intCast_add _ _
  generalize ((M : Rat) - (m : Rat)) * rv k = y at *
  generalize rv d * rv k = y' at *
  refine ⟨fw, ?_, ?_⟩
  · rw [cY]; grind
  · rw [cY]; grind
theorem cmp_ge {x y : UInt64} (hx : IsFin x) (hy : IsFin y) (h : (cmp x y == some .lt) = false) : rv y ≤ rv x := by
  by_cases q : rv x < rv y
  · rw [(lt_fin hx hy).mpr q] at h; cases h
  · grind
theorem vF_near {m1 m2 x : UInt64} {M m : Int} (h0 : 0 ≤ m) (h3 : M ≤ 256) (hlt : m < M) (c1 : Close m1 m) (c2 : Close m2 M) (fx : IsFin x) (W : Int)
    (y1 : 6 * (((M - m : Int) : Rat) * rv x) ≤ (W : Rat) + 1 / 1000) (y2 : (W : Rat) ≤ 6 * (((M - m : Int) : Rat) * rv x) + 1 / 1000) :
    ∃ z n : Int, Near (vF m1 m2 x) n ∧ ∃ Y : Int, Y = W + (M - m) * (6 * z) ∧ ((0 ≤ Y ∧ Y ≤ M - m ∧ n = m + Y) ∨ (M - m ≤ Y ∧ Y ≤ 3 * (M - m) ∧ n = M) ∨ (3 * (M - m) ≤ Y ∧ Y ≤ 4 * (M - m) ∧ n = m + (4 * (M - m) - Y)) ∨ (4 * (M - m) ≤ Y ∧ Y ≤ 6 * (M - m) ∧ n = m)) := by
  have hs := ep_small
  have hp := ep_pos
  have ⟨fu, u0, u1, z, u2, u3⟩ := mod1 fx
  have R1 : (1 : Rat) ≤ ((M - m : Int) : Rat) := ile (show (1 : Int) ≤ M - m by lia)
  have R2 : ((M - m : Int) : Rat) ≤ 256 := ile (show (M - m : Int) ≤ 256 by lia)
  have ⟨fs, s1, s2⟩ := sixth_is
  have ⟨fh, rh0⟩ := hlf_is
  have rh : 2 * rv 4602678819172646912 = 1 := by rw [rh0]; grind
  clear rh0
  have ⟨ft, t1, t2⟩ := thds_is
  obtain ⟨Y, hY⟩ : ∃ Y : Int, Y = W + (M - m) * (6 * z) := ⟨_, rfl⟩
  have cY : (Y : Rat) = (W : Rat) + 6 * (((M - m : Int) : Rat) * (z : Rat)) := by
    rw [hY, Rat.intCast_add, Rat.intCast_mul, Rat.intCast_mul]
    have c6 : ((6 : Int) : Rat) = 6 := rfl
    rw [c6]; grind
  have hRe : ((M - m : Int) : Rat) * ep ≤ 256 * ep := by
    have := scale (r := ep) (by grind) R2
    rw [Rat.mul_comm, Rat.mul_comm 256]; exact this
  unfold vF
  generalize (divmod x 4607182418800017408).snd = u at *
  -- Y is near 6 R u
  have Y1 : 6 * (((M - m : Int) : Rat) * rv u) ≤ (Y : Rat) + 1 / 500 := by
    have w := scale (r := ((M - m : Int) : Rat)) (by grind) u2
    rw [cY]
    generalize ((M - m : Int) : Rat) = R at *
    have e : R * (rv x + (z : Rat) + ep) = R * rv x + R * (z : Rat) + R * ep := by grind
    rw [e] at w
    grind
  have Y2 : (Y : Rat) ≤ 6 * (((M - m : Int) : Rat) * rv u) + 1 / 500 := by
    have w := scale (r := ((M - m : Int) : Rat)) (by grind) u3
    rw [cY]
    generalize ((M - m : Int) : Rat) = R at *
    have e : R * (rv x + (z : Rat)) = R * rv x + R * (z : Rat) := by grind
    have e' : R * (rv u + ep) = R * rv u + R * ep := by grind
    rw [e, e'] at w
    grind
  clear u2 u3 y1 y2 cY
  have hiI : ∀ (k : Int), 6 * rv u ≤ (k : Rat) + 6 * ep → Y ≤ k * (M - m) := by
    intro k hk
    have w := scale (r := ((M - m : Int) : Rat)) (by grind) hk
    have : Y < k * (M - m) + 1 := ilt (by
      rw [Rat.intCast_add, Rat.intCast_mul]
      show (Y : Rat) < (k : Rat) * ((M - m : Int) : Rat) + 1
      generalize ((M - m : Int) : Rat) = R at *
      have e : R * ((k : Rat) + 6 * ep) = (k : Rat) * R + 6 * (R * ep) := by grind
      have e' : R * (6 * rv u) = 6 * (R * rv u) := by grind
      rw [e, e'] at w
      grind)
    lia
  have loI : ∀ (k : Int), (k : Rat) ≤ 6 * rv u + 6 * ep → k * (M - m) ≤ Y := by
    intro k hk
    have w := scale (r := ((M - m : Int) : Rat)) (by grind) hk
    have : k * (M - m) - 1 < Y := ilt (by
      rw [Rat.intCast_sub, Rat.intCast_mul]
      show (k : Rat) * ((M - m : Int) : Rat) - 1 < (Y : Rat)
      generalize ((M - m : Int) : Rat) = R at *
      have e : R * (k : Rat) = (k : Rat) * R := by grind
      have e' : R * (6 * rv u + 6 * ep) = 6 * (R * rv u) + 6 * (R * ep) := by grind
      rw [e, e'] at w
      grind)
    lia
  have i0 : ((0 : Int) : Rat) = 0 := rfl
  have i1 : ((1 : Int) : Rat) = 1 := rfl
  have i3 : ((3 : Int) : Rat) = 3 := rfl
  have i4 : ((4 : Int) : Rat) = 4 := rfl
  have i6 : ((6 : Int) : Rat) = 6 := rfl
  by_cases q1 : (cmp u 4595172819793696085 == some .lt) = true
  · rw [if_pos q1]
    have l := (lt_fin fu fs).mp q1
    have g1 := hiI 1 (by rw [i1]; grind)
    have g2 := loI 0 (by rw [i0]; grind)
    exact ⟨z, m + Y, slope h0 h3 hlt c1 c2 fu (by grind) (by grind) Y (by grind) (by grind), Y, hY, .inl ⟨by lia, by lia, rfl⟩⟩
  · rw [if_neg q1]
    have l1 := cmp_ge fu fs (by simpa using q1)
    by_cases q2 : (cmp u 4602678819172646912 == some .lt) = true
    · rw [if_pos q2]
      have l := (lt_fin fu fh).mp q2
      have g1 := hiI 3 (by rw [i3]; grind)
      have g2 := loI 1 (by rw [i1]; grind)
      exact ⟨z, M, c2.near, Y, hY, .inr (.inl ⟨by lia, by lia, rfl⟩)⟩
    · rw [if_neg q2]
      have l2 := cmp_ge fu fh (by simpa using q2)
      by_cases q3 : (cmp u 4604180019048437077 == some .lt) = true
      · rw [if_pos q3]
        have l := (lt_fin fu ft).mp q3
        have g1 := hiI 4 (by rw [i4]; grind)
        have g2 := loI 3 (by rw [i3]; grind)
        have ⟨fk, k1, k2, k3, _⟩ := subE ft fu (by grind) (by grind)
        generalize sub 4604180019048437077 u = k at *
        have k3 := k3 (by grind)
        refine ⟨z, m + (4 * (M - m) - Y), slope h0 h3 hlt c1 c2 fk (by grind) (by grind) (4 * (M - m) - Y) ?_ ?_, Y, hY, .inr (.inr (.inl ⟨by lia, by lia, rfl⟩))⟩
        · have w := scale (r := ((M - m : Int) : Rat)) (by grind) k1
          have w2 := scale (r := ((M - m : Int) : Rat)) (by grind) t1
          have cc : ((4 * (M - m) - Y : Int) : Rat) = 4 * ((M - m : Int) : Rat) - (Y : Rat) := by rw [Rat.intCast_sub (4 * (M - m)) Y, Rat.intCast_mul]; rfl
          rw [cc]
          generalize ((M - m : Int) : Rat) = R at *
          have e : R * (rv 4604180019048437077 - rv u + ep) = R * rv 4604180019048437077 - R * rv u + R * ep := by grind
          have e2 : R * (3 * rv 4604180019048437077) = 3 * (R * rv 4604180019048437077) := by grind
          have e3 : R * (2 + ep) = 2 * R + R * ep := by grind
          rw [e] at w
          rw [e2, e3] at w2
          grind
        · have w := scale (r := ((M - m : Int) : Rat)) (by grind) k2
          have w2 := scale (r := ((M - m : Int) : Rat)) (by grind) t2
          have cc : ((4 * (M - m) - Y : Int) : Rat) = 4 * ((M - m : Int) : Rat) - (Y : Rat) := by rw [Rat.intCast_sub (4 * (M - m)) Y, Rat.intCast_mul]; rfl
          rw [cc]
          generalize ((M - m : Int) : Rat) = R at *
          have e : R * (rv 4604180019048437077 - rv u) = R * rv 4604180019048437077 - R * rv u := by grind
          have e1 : R * (rv k + ep) = R * rv k + R * ep := by grind
          have e2 : R * (3 * rv 4604180019048437077 + ep) = 3 * (R * rv 4604180019048437077) + R * ep := by grind
          rw [e, e1] at w
          rw [e2] at w2
          grind
      · rw [if_neg q3]
        have l3 := cmp_ge fu ft (by simpa using q3)
        have g1 := hiI 6 (by rw [i6]; grind)
        have g2 := loI 4 (by rw [i4]; grind)
        exact ⟨z, m, c1.near, Y, hY, .inr (.inr (.inr ⟨by lia, by lia, rfl⟩))⟩
theorem trapP {m R e n Y v : Int} (h0 : 0 ≤ e) (hR : e ≤ R) (h1 : 1 ≤ R) (hY : Y = e + R * v)
    (hn : (0 ≤ Y ∧ Y ≤ R ∧ n = m + Y) ∨ (R ≤ Y ∧ Y ≤ 3 * R ∧ n = m + R) ∨ (3 * R ≤ Y ∧ Y ≤ 4 * R ∧ n = m + (4 * R - Y)) ∨ (4 * R ≤ Y ∧ Y ≤ 6 * R ∧ n = m)) :
    (v % 6 = 0 → n = m + e) ∧ (v % 6 = 2 → n = m + R) ∧ (v % 6 = 4 → n = m) := by
  have ⟨l1, l2⟩ := bds (v := v) (lo := -1) (hi := 6) h1 (by lia) (by lia)
  refine ⟨fun h => ?_, fun h => ?_, fun h => ?_⟩
  · have : v = 0 ∨ v = 6 := by clear hY hn; lia
    clear h l1 l2
    rcases this with rfl | rfl <;> lia
  · obtain rfl : v = 2 := by clear hY hn; lia
    clear h l1 l2; lia
  · obtain rfl : v = 4 := by clear hY hn; lia
    clear h l1 l2; lia
theorem trapM {m R e n Y v : Int} (h0 : 0 ≤ e) (hR : e ≤ R) (h1 : 1 ≤ R) (hY : Y = -e + R * v)
    (hn : (0 ≤ Y ∧ Y ≤ R ∧ n = m + Y) ∨ (R ≤ Y ∧ Y ≤ 3 * R ∧ n = m + R) ∨ (3 * R ≤ Y ∧ Y ≤ 4 * R ∧ n = m + (4 * R - Y)) ∨ (4 * R ≤ Y ∧ Y ≤ 6 * R ∧ n = m)) :
    (v % 6 = 0 → n = m) ∧ (v % 6 = 2 → n = m + R) ∧ (v % 6 = 4 → n = m + e) := by
  have ⟨l1, l2⟩ := bds (v := v) (lo := 0) (hi := 7) h1 (by lia) (by lia)
  refine ⟨fun h => ?_, fun h => ?_, fun h => ?_⟩
  · have : v = 0 ∨ v = 6 := by clear hY hn; lia
    clear h l1 l2
    rcases this with rfl | rfl <;> lia
  · obtain rfl : v = 2 := by clear hY hn; lia
    clear h l1 l2; lia
  · obtain rfl : v = 4 := by clear hY hn; lia
    clear h l1 l2; lia
theorem shift6 {w r k : Int} (h : w % 6 = r) : (w + k) % 6 = (r + k) % 6 := by rw [← h, Int.emod_add_emod]
/-- the value at a place of the trapezium -/
theorem trap {a b c M m D w n Y : Int} (oM : M = a ∨ M = b ∨ M = c) (gM : a ≤ M ∧ b ≤ M ∧ c ≤ M) (om : m = a ∨ m = b ∨ m = c) (gm : m ≤ a ∧ m ≤ b ∧ m ≤ c) (hlt : m < M)
    (hD : (a = M ∧ D = b - c) ∨ (b = M ∧ D = 2 * (M - m) + c - a) ∨ (c = M ∧ D = 4 * (M - m) + a - b))
    (hY : Y = D + (M - m) * w)
    (hn : (0 ≤ Y ∧ Y ≤ M - m ∧ n = m + Y) ∨ (M - m ≤ Y ∧ Y ≤ 3 * (M - m) ∧ n = M) ∨ (3 * (M - m) ≤ Y ∧ Y ≤ 4 * (M - m) ∧ n = m + (4 * (M - m) - Y)) ∨ (4 * (M - m) ≤ Y ∧ Y ≤ 6 * (M - m) ∧ n = m)) :
    (w % 6 = 2 → n = a) ∧ (w % 6 = 0 → n = b) ∧ (w % 6 = 4 → n = c) := by
  obtain ⟨e, R, he0, heR, hR, rfl, hp⟩ := norm6 gM om gm hlt hD
  clear oM gM om gm hlt hD
  have eR : m + R - m = R := by lia
  rw [eR] at hY hn
  rcases hp with ⟨rfl, rfl, rfl, rfl⟩ | ⟨rfl, rfl, rfl, rfl⟩ | ⟨rfl, rfl, rfl, rfl⟩ | ⟨rfl, rfl, rfl, rfl⟩ | ⟨rfl, rfl, rfl, rfl⟩ | ⟨rfl, rfl, rfl, rfl⟩
  · rw [kmul] at hY
    have ⟨q0, q2, q4⟩ := trapP he0 heR hR hY hn
    exact ⟨fun h => q2 (shift6 h), fun h => q0 (shift6 h), fun h => q4 (shift6 h)⟩
  · rw [kmul'] at hY
    have ⟨q0, q2, q4⟩ := trapM he0 heR hR hY hn
    exact ⟨fun h => q2 (shift6 h), fun h => q0 (shift6 h), fun h => q4 (shift6 h)⟩
  · rw [kmul'] at hY
    have ⟨q0, q2, q4⟩ := trapM he0 heR hR hY hn
    exact ⟨fun h => q4 (shift6 h), fun h => q2 (shift6 h), fun h => q0 (shift6 h)⟩
  · rw [kmul] at hY
    have ⟨q0, q2, q4⟩ := trapP he0 heR hR hY hn
    exact ⟨fun h => q4 (shift6 h), fun h => q2 (shift6 h), fun h => q0 (shift6 h)⟩
  · rw [kmul'] at hY
    have ⟨q0, q2, q4⟩ := trapM he0 heR hR hY hn
    exact ⟨fun h => q0 (shift6 h), fun h => q4 (shift6 h), fun h => q2 (shift6 h)⟩
  · rw [kmul] at hY
    have ⟨q0, q2, q4⟩ := trapP he0 heR hR hY hn
    exact ⟨fun h => q0 (shift6 h), fun h => q4 (shift6 h), fun h => q2 (shift6 h)⟩
end Mine
end
/-! FT9 -/
section
open PySem PySem.Float64
set_option maxRecDepth 100000
set_option maxHeartbeats 0
namespace Mine
theorem hls_sat {M m : Int} (h0 : 0 ≤ m) (h3 : M ≤ 256) (hlt : m < M) :
    isZero (add (kF M) (kF m)) = false ∧ isZero (sub (sub 4611686018427387904 (kF M)) (kF m)) = false ∧
    (∀ S, ((cmp (div (add (kF M) (kF m)) 4611686018427387904) 4602678819172646912 == some .lt || cmp (div (add (kF M) (kF m)) 4611686018427387904) 4602678819172646912 == some .eq) = true → S = div (sub (kF M) (kF m)) (add (kF M) (kF m))) →
      ((cmp (div (add (kF M) (kF m)) 4611686018427387904) 4602678819172646912 == some .lt || cmp (div (add (kF M) (kF m)) 4611686018427387904) 4602678819172646912 == some .eq) = false → S = div (sub (kF M) (kF m)) (sub (sub 4611686018427387904 (kF M)) (kF m))) →
      (cmp S 0 == some .eq) = false ∧ Close (m2F (div (add (kF M) (kF m)) 4611686018427387904) S) M ∧ Close (sub (mul 4611686018427387904 (div (add (kF M) (kF m)) 4611686018427387904)) (m2F (div (add (kF M) (kF m)) 4611686018427387904) S)) m) := by
  have hs := ep_small
  have hp := ep_pos
  have ⟨fM, vM⟩ := kF_is (a := M) (by lia) h3
  have ⟨fm, vm⟩ := kF_is (a := m) h0 (by lia)
  have ⟨f2, v2, r2⟩ := two_is
  have ⟨fR, vR⟩ := sub_exact fM fm vM vm (c := M - m) rfl (by lia)
  have ⟨fS, vS⟩ := add_exact fM fm vM vm (c := M + m) rfl (by lia)
  have ⟨fT1, vT1⟩ := sub_exact f2 fM v2 vM (c := 512 - M) rfl (by lia)
  have ⟨fT, vT⟩ := sub_exact fT1 fm vT1 vm (c := 512 - M - m) rfl (by lia)
  have rR := rv_ex vR
  have rS := rv_ex vS
  have rT := rv_ex vT
  have pw : ((2 ^ 1066 : Nat) : Int) ≠ 0 := Int.ofNat_ne_zero.mpr (Nat.ne_of_gt (Nat.two_pow_pos 1066))
  refine ⟨zero_fin' fS (by rw [vS]; exact Int.mul_ne_zero (by lia) pw), zero_fin' fT (by rw [vT]; exact Int.mul_ne_zero (by lia) pw), ?_⟩
  have cR : ((M - m : Int) : Rat) = (M : Rat) - (m : Rat) := Rat.intCast_sub _ _
  have cS : ((M + m : Int) : Rat) = (M : Rat) + (m : Rat) := Rat.intCast_add _ _
  have cT : ((512 - M - m : Int) : Rat) = 512 - (M : Rat) - (m : Rat) := by rw [Rat.intCast_sub, Rat.intCast_sub]; rfl
  have M2 : (M : Rat) ≤ 256 := ile h3
  have m0 : (0 : Rat) ≤ (m : Rat) := ile h0
  have mM : (m : Rat) + 1 ≤ (M : Rat) := by have := ile (show m + 1 ≤ M by lia); rw [Rat.intCast_add] at this; exact this
  rw [cR] at rR
  rw [cS] at rS
  rw [cT] at rT
  clear vM vm vR vS vT vT1 fT1 v2 cR cS cT
  generalize sub (sub 4611686018427387904 (kF M)) (kF m) = fT' at *
  generalize add (kF M) (kF m) = fS' at *
  generalize sub (kF M) (kF m) = fR' at *
  generalize hAe : (M : Rat) = A at *
  generalize hBe : (m : Rat) = B at *
  have ⟨fL, L1, L2, L0⟩ := divE fS f2 (by rw [r2]; grind) (by rw [r2]; grind) (by rw [r2]; grind)
  rw [r2] at L1 L2
  generalize div fS' 4611686018427387904 = L at *
  have L0 := L0 (by grind)
  have nz : ∀ S, IsFin S → 0 < rv S → (cmp S 0 == some .eq) = false := by
    intro S fS hS
    cases hq : (cmp S 0 == some .eq) with
    | false => rfl
    | true =>
      have := (eq_fin fS zro_is.1).mp hq
      rw [zro_is.2.1] at this
      have hr : rv S = 0 := by unfold rv; rw [this]; simp
      rw [hr] at hS; grind
  have last : ∀ X, IsFin X → 512 * rv X ≤ 2 * A + 1 / 10000 → 2 * A ≤ 512 * rv X + 1 / 10000 → IsFin X ∧ (256 * rv X ≤ A + 1 / 10000 ∧ A ≤ 256 * rv X + 1 / 10000) ∧ IsFin (sub (mul 4611686018427387904 L) X) ∧ (256 * rv (sub (mul 4611686018427387904 L) X) ≤ B + 1 / 10000 ∧ B ≤ 256 * rv (sub (mul 4611686018427387904 L) X) + 1 / 10000) := by
    intro X fX x1 x2
    have ⟨fq, q1, q2, _⟩ := mulE f2 fL (by rw [r2]; grind) (by rw [r2]; grind)
    rw [r2] at q1 q2
    generalize mul 4611686018427387904 L = q at *
    have ⟨fw, w1, w2, _, _⟩ := subE fq fX (by grind) (by grind)
    exact ⟨fX, ⟨by grind, by grind⟩, fw, by grind, by grind⟩
  intro S hS1 hS2
  unfold m2F
  have r1 := one_rv
  have big : ∀ (y : UInt64) (C : Rat), IsFin y → 256 * rv y = C → A - B ≤ C → 1 ≤ C → C ≤ 512 →
      IsFin (div fR' y) ∧ 0 ≤ rv (div fR' y) ∧ rv (div fR' y) ≤ 1 + ep ∧ C * rv (div fR' y) ≤ A - B + 512 * ep ∧ A - B ≤ C * rv (div fR' y) + 512 * ep ∧ 0 < rv (div fR' y) := by
    intro y C fy ry hC1 hC2 hC3
    have ⟨f, d1, d2, d3⟩ := divE fR fy (by grind) (by grind) (by grind)
    generalize rv (div fR' y) = s at *
    have e1 : rv y * s = C * s / 256 := by rw [← ry]; grind
    have e2 : rv y * ep = C * ep / 256 := by rw [← ry]; grind
    rw [e1, e2] at d1 d2
    have hCe : C * ep ≤ 512 * ep := by
      have := scale (r := ep) (by grind) hC3
      rw [Rat.mul_comm, Rat.mul_comm 512]; exact this
    have s0 := d3 (by grind)
    have g1 : C * s ≤ A - B + C * ep := by grind
    have g2 : A - B ≤ C * s + C * ep := by grind
    refine ⟨f, s0, ?_, by grind, by grind, ?_⟩
    · apply cancel (r := C) (by grind)
      have : C * (1 + ep) = C + C * ep := by grind
      rw [this]; grind
    · by_cases q : 0 < s
      · exact q
      · have : s = 0 := by grind
        rw [this, Rat.mul_zero] at g2
        grind
  cases hc : (cmp L 4602678819172646912 == some .lt || cmp L 4602678819172646912 == some .eq) with
  | true =>
    have eS := hS1 hc
    have ⟨b1, b2, b3, b4, b5, b6⟩ := big fS' _ fS rS (by grind) (by grind) (by grind)
    rw [← eS] at b1 b2 b3 b4 b5 b6
    clear hS1 hS2 big eS
    rw [if_pos rfl]
    have ⟨fo, o1, o2, _, _⟩ := addE one_fin b1 (by rw [r1]; grind) (by rw [r1]; grind)
    rw [r1] at o1 o2
    generalize add 4607182418800017408 S = o at *
    have ⟨g1, g2⟩ := absmul (d := rv L) (w := rv o) (e := 2) (k := 3) (by grind) (by grind) (by grind) (by grind)
    have ⟨fx, x1, x2, _⟩ := mulE fL fo (by grind) (by grind)
    generalize mul L o = x at *
    have ⟨g3, g4⟩ := absmul (d := 512 * rv L - (A + B)) (w := rv o) (e := 512 * ep) (k := 3) (by grind) (by grind) (by grind) (by grind)
    have s1 := scale (r := A + B) (by grind) o1
    have s2 := scale (r := A + B) (by grind) o2
    have hSe : (A + B) * ep ≤ 512 * ep := by
      have := scale (r := ep) (by grind) (show A + B ≤ 512 by grind)
      rw [Rat.mul_comm, Rat.mul_comm 512]; exact this
    have e1 : (A + B) * (1 + rv S + ep) = A + B + (A + B) * rv S + (A + B) * ep := by grind
    have e2 : (A + B) * (1 + rv S) = A + B + (A + B) * rv S := by grind
    have e3 : (A + B) * (rv o + ep) = (A + B) * rv o + (A + B) * ep := by grind
    have e4 : (512 * rv L - (A + B)) * rv o = 512 * (rv L * rv o) - (A + B) * rv o := by grind
    rw [e1] at s1
    rw [e2, e3] at s2
    rw [e4] at g3 g4
    clear e1 e2 e3 e4
    generalize (A + B) * rv S = y1 at *
    generalize (A + B) * rv o = y2 at *
    generalize (A + B) * ep = y3 at *
    generalize rv L * rv o = y4 at *
    have ⟨k1, k2, k3, k4⟩ := last x fx (by grind) (by grind)
    exact ⟨nz S b1 b6, ⟨k1, by rw [hAe]; exact k2.1, by rw [hAe]; exact k2.2⟩, ⟨k3, by rw [hBe]; exact k4.1, by rw [hBe]; exact k4.2⟩⟩
  | false =>
    have eS := hS2 hc
    have ⟨b1, b2, b3, b4, b5, b6⟩ := big fT' _ fT rT (by grind) (by grind) (by grind)
    rw [← eS] at b1 b2 b3 b4 b5 b6
    clear hS1 hS2 big eS
    rw [if_neg (by decide)]
    have ⟨fo, o1, o2, _, _⟩ := addE fL b1 (by grind) (by grind)
    generalize add L S = o at *
    have ⟨g1, g2⟩ := absmul (d := rv L) (w := rv S) (e := 2) (k := 3) (by grind) (by grind) (by grind) (by grind)
    have ⟨fx, x1, x2, _⟩ := mulE fL b1 (by grind) (by grind)
    generalize mul L S = x at *
    have ⟨g3, g4⟩ := absmul (d := 512 * rv L - (A + B)) (w := rv S) (e := 512 * ep) (k := 3) (by grind) (by grind) (by grind) (by grind)
    have ⟨fz, z1, z2, _, _⟩ := subE fo fx (by grind) (by grind)
    generalize sub o x = zz at *
    have e1 : (512 - A - B) * rv S = 512 * rv S - (A + B) * rv S := by grind
    have e4 : (512 * rv L - (A + B)) * rv S = 512 * (rv L * rv S) - (A + B) * rv S := by grind
    rw [e1] at b4 b5
    rw [e4] at g3 g4
    clear e1 e4
    generalize (A + B) * rv S = y1 at *
    generalize rv L * rv S = y4 at *
    have ⟨k1, k2, k3, k4⟩ := last zz fz (by grind) (by grind)
    exact ⟨nz S b1 b6, ⟨k1, by rw [hAe]; exact k2.1, by rw [hAe]; exact k2.2⟩, ⟨k3, by rw [hBe]; exact k4.1, by rw [hBe]; exact k4.2⟩⟩
end Mine
end
/-! FT10 -/
section
open PySem PySem.Float64
set_option maxRecDepth 100000
set_option maxHeartbeats 0
namespace Mine
/-- back from hue, lightness and saturation -/
theorem hls_back {a b c M m D z t : Int} {H m1 m2 : UInt64} (h0 : 0 ≤ m) (h3 : M ≤ 256) (oM : M = a ∨ M = b ∨ M = c) (gM : a ≤ M ∧ b ≤ M ∧ c ≤ M) (om : m = a ∨ m = b ∨ m = c) (gm : m ≤ a ∧ m ≤ b ∧ m ≤ c) (hlt : m < M)
    (hD : (a = M ∧ D = b - c) ∨ (b = M ∧ D = 2 * (M - m) + c - a) ∨ (c = M ∧ D = 4 * (M - m) + a - b))
    (ht : 0 ≤ t) (ht2 : t ≤ 2) (fH : IsFin H) (H0 : 0 ≤ rv H) (H1 : rv H < 1) (c1 : Close m1 m) (c2 : Close m2 M)
    (k1 : 6 * (((M - m : Int) : Rat) * rv H) ≤ (D : Rat) + 6 * (((M - m : Int) : Rat) * (z : Rat)) + 20 * (((M - m : Int) : Rat) * ep))
    (k2 : (D : Rat) + 6 * (((M - m : Int) : Rat) * (z : Rat)) ≤ 6 * (((M - m : Int) : Rat) * rv H) + 20 * (((M - m : Int) : Rat) * ep)) :
    Near (vF m1 m2 (add (sub H (thF (3 - t))) 4599676419421066581)) (rotP t (a, b, c)).1 ∧ Near (vF m1 m2 (sub H (thF (3 - t)))) (rotP t (a, b, c)).2.1 ∧ Near (vF m1 m2 (sub (sub H (thF (3 - t))) 4599676419421066581)) (rotP t (a, b, c)).2.2 := by
  have hs := ep_small
  have hp := ep_pos
  have R1 : (1 : Rat) ≤ ((M - m : Int) : Rat) := ile (show (1 : Int) ≤ M - m by lia)
  have R2 : ((M - m : Int) : Rat) ≤ 256 := ile (show (M - m : Int) ≤ 256 by lia)
  have hRe : ((M - m : Int) : Rat) * ep ≤ 256 * ep := by
    have := scale (r := ep) (by grind) R2
    rw [Rat.mul_comm, Rat.mul_comm 256]; exact this
  have tt : ((3 - t : Int) : Rat) = 3 - (t : Rat) := by rw [Rat.intCast_sub]; rfl
  have t0 : (0 : Rat) ≤ (t : Rat) := ile ht
  have t1 : (t : Rat) ≤ 2 := ile ht2
  have ⟨fT, T1, T2, T0⟩ := thF_is (t := 3 - t) (by lia) (by lia)
  rw [tt] at T1 T2
  generalize thF (3 - t) = th at *
  have ⟨fA, A1, A2, _, _⟩ := subE fH fT (by clear k1 k2; grind) (by clear k1 k2; grind)
  generalize sub H th = A at *
  have ⟨fh, h1, h2⟩ := thd_is
  have ⟨fB, B1, B2, _, _⟩ := addE fA fh (by clear k1 k2; grind) (by clear k1 k2; grind)
  have ⟨fC, C1, C2, _, _⟩ := subE fA fh (by clear k1 k2; grind) (by clear k1 k2; grind)
  generalize add A 4599676419421066581 = B at *
  generalize sub A 4599676419421066581 = C at *
  generalize rv 4599676419421066581 = h at *
  have cW : ∀ s : Int, ((D + (M - m) * (6 * z - 6 + 2 * t + 2 * s) : Int) : Rat) = (D : Rat) + 6 * (((M - m : Int) : Rat) * (z : Rat)) - 6 * ((M - m : Int) : Rat) + 2 * (((M - m : Int) : Rat) * (t : Rat)) + 2 * (((M - m : Int) : Rat) * (s : Rat)) := by
    intro s
    rw [Rat.intCast_add, Rat.intCast_mul, Rat.intCast_add (6 * z - 6 + 2 * t) (2 * s), Rat.intCast_add (6 * z - 6) (2 * t), Rat.intCast_sub (6 * z) 6, Rat.intCast_mul, Rat.intCast_mul, Rat.intCast_mul]
    have c6 : ((6 : Int) : Rat) = 6 := rfl
    have c2 : ((2 : Int) : Rat) = 2 := rfl
    rw [c6, c2]
    generalize ((M - m : Int) : Rat) = R
    grind
  have fin : ∀ (x : UInt64) (s : Int), IsFin x → 3 * rv x ≤ 3 * rv H - (3 - (t : Rat)) + (s : Rat) + 20 * ep → 3 * rv H - (3 - (t : Rat)) + (s : Rat) ≤ 3 * rv x + 20 * ep →
      ∃ n w, Near (vF m1 m2 x) n ∧ w % 6 = (2 * t + 2 * s) % 6 ∧ ((w % 6 = 2 → n = a) ∧ (w % 6 = 0 → n = b) ∧ (w % 6 = 4 → n = c)) := by
    intro x s fx x1 x2
    have w1 := scale (r := ((M - m : Int) : Rat)) (by grind) x1
    have w2 := scale (r := ((M - m : Int) : Rat)) (by grind) x2
    have e := cW s
    have y1 : 6 * (((M - m : Int) : Rat) * rv x) ≤ ((D + (M - m) * (6 * z - 6 + 2 * t + 2 * s) : Int) : Rat) + 1 / 1000 := by
      rw [e]
      generalize ((M - m : Int) : Rat) = R at *
      have e1 : R * (3 * rv x) = 3 * (R * rv x) := by grind
      have e2 : R * (3 * rv H - (3 - (t : Rat)) + (s : Rat) + 20 * ep) = 3 * (R * rv H) - 3 * R + R * (t : Rat) + R * (s : Rat) + 20 * (R * ep) := by grind
      rw [e1, e2] at w1
      clear w2 e1 e2 e cW
      grind
    have y2 : ((D + (M - m) * (6 * z - 6 + 2 * t + 2 * s) : Int) : Rat) ≤ 6 * (((M - m : Int) : Rat) * rv x) + 1 / 1000 := by
      rw [e]
      generalize ((M - m : Int) : Rat) = R at *
      have e1 : R * (3 * rv x + 20 * ep) = 3 * (R * rv x) + 20 * (R * ep) := by grind
      have e2 : R * (3 * rv H - (3 - (t : Rat)) + (s : Rat)) = 3 * (R * rv H) - 3 * R + R * (t : Rat) + R * (s : Rat) := by grind
      rw [e1, e2] at w2
      clear w1 e1 e2 e cW
      grind
    obtain ⟨z', n, hn, Y, hY, hc⟩ := vF_near h0 h3 hlt c1 c2 fx _ y1 y2
    have hY' : Y = D + (M - m) * (6 * z - 6 + 2 * t + 2 * s + 6 * z') := by rw [hY, Int.mul_add (M - m) (6 * z - 6 + 2 * t + 2 * s) (6 * z'), Int.add_assoc]
    exact ⟨n, _, hn, by lia, trap oM gM om gm hlt hD hY' hc⟩
  have i1 : ((1 : Int) : Rat) = 1 := rfl
  have i0 : ((0 : Int) : Rat) = 0 := rfl
  have im : ((-1 : Int) : Rat) = -1 := rfl
  obtain ⟨n1, w1, N1, q1, p1⟩ := fin B 1 fB (by rw [i1]; clear k1 k2 cW; grind) (by rw [i1]; clear k1 k2 cW; grind)
  obtain ⟨n2, w2, N2, q2, p2⟩ := fin A 0 fA (by rw [i0]; clear k1 k2 cW; grind) (by rw [i0]; clear k1 k2 cW; grind)
  obtain ⟨n3, w3, N3, q3, p3⟩ := fin C (-1) fC (by rw [im]; clear k1 k2 cW; grind) (by rw [im]; clear k1 k2 cW; grind)
  have r0 : rotP 0 (a, b, c) = (a, b, c) := by unfold rotP; rw [if_pos rfl]
  have r1 : rotP 1 (a, b, c) = (c, a, b) := by unfold rotP; rw [if_neg (by decide), if_pos rfl]
  have r2 : rotP 2 (a, b, c) = (b, c, a) := by unfold rotP; rw [if_neg (by decide), if_neg (by decide)]
  have ht' : t = 0 ∨ t = 1 ∨ t = 2 := by lia
  rcases ht' with rfl | rfl | rfl
  · rw [r0]; exact ⟨N1.to (p1.1 (by lia)), N2.to (p2.2.1 (by lia)), N3.to (p3.2.2 (by lia))⟩
  · rw [r1]; exact ⟨N1.to (p1.2.2 (by lia)), N2.to (p2.1 (by lia)), N3.to (p3.2.1 (by lia))⟩
  · rw [r2]; exact ⟨N1.to (p1.2.1 (by lia)), N2.to (p2.2.2 (by lia)), N3.to (p3.1 (by lia))⟩
end Mine
end
/-! TurnX -/
section
open PySem PySem.W PyProof.Rows PySem.Float64
set_option maxRecDepth 100000
set_option maxHeartbeats 0
namespace Mine
theorem rot_range {a b c t : Int} (ha : 0 ≤ a) (ha2 : a ≤ 256) (hb : 0 ≤ b) (hb2 : b ≤ 256) (hc : 0 ≤ c) (hc2 : c ≤ 256) :
    (0 ≤ (rotP t (a, b, c)).1 ∧ (rotP t (a, b, c)).1 ≤ 256) ∧ (0 ≤ (rotP t (a, b, c)).2.1 ∧ (rotP t (a, b, c)).2.1 ≤ 256) ∧ (0 ≤ (rotP t (a, b, c)).2.2 ∧ (rotP t (a, b, c)).2.2 ≤ 256) := by
  unfold rotP
  split
  · exact ⟨⟨ha, ha2⟩, ⟨hb, hb2⟩, ⟨hc, hc2⟩⟩
  · split
    · exact ⟨⟨hc, hc2⟩, ⟨ha, ha2⟩, ⟨hb, hb2⟩⟩
    · exact ⟨⟨hb, hb2⟩, ⟨hc, hc2⟩, ⟨ha, ha2⟩⟩
theorem rot_same {a t : Int} : rotP t (a, a, a) = (a, a, a) := by
  unfold rotP
  split
  · rfl
  · split <;> rfl
theorem hue_lo {H : UInt64} (f : IsFin H) (h : 0 ≤ rv H) : (cmp H 0 == some .lt) = false := by
  cases q : (cmp H 0 == some .lt) with
  | false => rfl
  | true => have := (lt_fin f zro_is.1).mp q; rw [zro_is.2.2] at this; grind
theorem hue_hi {H : UInt64} (f : IsFin H) (h : rv H < 1) : (cmp H 4607182418800017408 == some .gt || cmp H 4607182418800017408 == some .eq) = false := by
  have g : (cmp H 4607182418800017408 == some .gt) = false := by
    cases q : (cmp H 4607182418800017408 == some .gt) with
    | false => rfl
    | true => have := (gt_fin f one_fin).mp q; rw [one_rv] at this; grind
  have e : (cmp H 4607182418800017408 == some .eq) = false := by
    cases q : (cmp H 4607182418800017408 == some .eq) with
    | false => rfl
    | true =>
      have := (eq_fin f one_fin).mp q
      have h2 : rv H = rv 4607182418800017408 := by unfold rv; rw [this]
      rw [one_rv] at h2; grind
  rw [g, e]; rfl
theorem near_same {x : UInt64} {n : Int} (h0 : 0 ≤ n) (h2 : n ≤ 256) (h : Near x n) : RoundOk x ∧ roundP x = n := round_to h.fin h0 h2 h.up h.dn
theorem mM_facts {a b c M m : Int} (ha : 0 ≤ a) (ha2 : a ≤ 256) (hb : 0 ≤ b) (hb2 : b ≤ 256) (hc : 0 ≤ c) (hc2 : c ≤ 256) (oM : M = a ∨ M = b ∨ M = c) (om : m = a ∨ m = b ∨ m = c) (gm : m ≤ a ∧ m ≤ b ∧ m ≤ c) :
    0 ≤ M ∧ M ≤ 256 ∧ 0 ≤ m ∧ m ≤ 256 ∧ m ≤ M := by
  obtain ⟨g1, g2, g3⟩ := gm
  refine ⟨?_, ?_, ?_, ?_, ?_⟩
  · clear om g1 g2 g3; rcases oM with rfl | rfl | rfl <;> assumption
  · clear om g1 g2 g3; rcases oM with rfl | rfl | rfl <;> assumption
  · clear oM; rcases om with rfl | rfl | rfl <;> assumption
  · clear oM; rcases om with rfl | rfl | rfl <;> assumption
  · clear om; rcases oM with rfl | rfl | rfl <;> assumption
theorem nat53 {x : Int} (h0 : 0 ≤ x) (h2 : x ≤ 512) : x.natAbs ≤ 2 ^ 53 := by lia
theorem turned_spec (w : World) (l : Addr) (a b c t : Int) (lt : Bool) (ta tb tc tt : Tok) (nn : Nat) (news : List (Addr × Obj)) (ha : 0 ≤ a) (ha2 : a ≤ 256) (hb : 0 ≤ b) (hb2 : b ≤ 256) (hc : 0 ≤ c) (hc2 : c ≤ 256) (ht : 0 ≤ t) (ht2 : t ≤ 2) :
    Spec w 143 [.ref l, .int t tt, .bool lt] 4 ((l, listOf #[.int a ta, .int b tb, .int c tc] nn) :: news) (OutL (rotP t (a, b, c)).1 (rotP t (a, b, c)).2.1 (rotP t (a, b, c)).2.2) := by
  obtain ⟨M, eM, oM, gM⟩ := mx3 ha ha2 hb hb2 hc hc2
  obtain ⟨m, em, om, gm⟩ := mn3 ha ha2 hb hb2 hc hc2
  have ⟨iM0, iM2, im0, im2, imM⟩ := mM_facts ha ha2 hb hb2 hc hc2 oM om gm
  have ⟨⟨x0, x1⟩, ⟨y0, y1⟩, ⟨z0, z1⟩⟩ := rot_range (t := t) ha ha2 hb hb2 hc hc2
  have kM : (cmp (kF m) (kF M) == some .eq) = true ↔ m = M := kF_eq im0 im2 iM0 iM2
  by_cases hmM : m = M
  · have hab : a = M ∧ b = M ∧ c = M := ⟨Int.le_antisymm gM.1 (hmM ▸ gm.1), Int.le_antisymm gM.2.1 (hmM ▸ gm.2.1), Int.le_antisymm gM.2.2 (hmM ▸ gm.2.2)⟩
    obtain ⟨e1, e2, e3⟩ := hab
    have hg : (cmp (minF (minF (kF a) (kF b)) (kF c)) (maxF (maxF (kF a) (kF b)) (kF c)) == some .eq) = true := by rw [eM, em]; exact kM.mpr hmM
    have g1 : (cmp 0 0 == some .lt) = false := by decide +kernel
    have g2 : (cmp 0 4607182418800017408 == some .gt || cmp 0 4607182418800017408 == some .eq) = false := by decide +kernel
    have g3 : (cmp 0 0 == some .eq) = true := by decide +kernel
    have er : rotP t (a, b, c) = (M, M, M) := by rw [e1, e2, e3]; exact rot_same
    cases lt with
    | false =>
      have eT : toHsvF (kF a) (kF b) (kF c) = (0, 0, kF M) := by rw [toHsvF_1 hg, eM]
      have eA : turnA a b c t = (kF M, kF M, kF M) := by unfold turnA; rw [eT]; exact hsvToF_z g3
      have ⟨ro, rp⟩ := near_same iM0 iM2 (kF_near (n := M) iM0 iM2)
      have h := turnA_spec w l a b c t ta tb tc tt nn news ha ha2 hb hb2 hc hc2 ht ht2 (fun q => by rw [hg] at q; cases q) (by rw [eT]; intro q; have q2 : (cmp 0 0 == some .eq) = false := q; rw [g3] at q2; cases q2) (by rw [eT]; exact g1) (by rw [eT]; exact g2) (by rw [eA]; exact ro) (by rw [eA]; exact ro) (by rw [eA]; exact ro)
      rw [eA] at h
      simp only [rp] at h
      rw [er]; exact h
    | true =>
      have eT : toHlsF (kF a) (kF b) (kF c) = (0, div (add (kF M) (kF M)) 4611686018427387904, 0) := by rw [toHlsF_1 hg, eM, em, hmM]
      have eA : turnB a b c t = (div (add (kF M) (kF M)) 4611686018427387904, div (add (kF M) (kF M)) 4611686018427387904, div (add (kF M) (kF M)) 4611686018427387904) := by unfold turnB; rw [eT]; exact hlsToF_1 g3
      have nL : Near (div (add (kF M) (kF M)) 4611686018427387904) M := by
        have ⟨fM, vM⟩ := kF_is (a := M) iM0 iM2
        have ⟨f2, v2, r2⟩ := two_is
        have ⟨fS, vS⟩ := add_exact fM fM vM vM (c := M + M) rfl (nat53 (Int.add_nonneg iM0 iM0) (Int.add_le_add iM2 iM2))
        have rS := rv_ex vS
        rw [Rat.intCast_add] at rS
        have M0 : (0 : Rat) ≤ (M : Rat) := ile iM0
        have M2 : (M : Rat) ≤ 256 := ile iM2
        have hs := ep_small
        have ⟨fL, L1, L2, L0⟩ := divE fS f2 (by rw [r2]; grind) (by rw [r2]; grind) (by rw [r2]; grind)
        rw [r2] at L1 L2
        exact ⟨fL, by grind, by grind⟩
      have ⟨ro, rp⟩ := near_same iM0 iM2 nL
      have h := turnB_spec w l a b c t ta tb tc tt nn news ha ha2 hb hb2 hc hc2 ht ht2 (fun q => by rw [hg] at q; cases q) (by rw [eT]; exact g1) (by rw [eT]; exact g2) (by rw [eA]; exact ro) (by rw [eA]; exact ro) (by rw [eA]; exact ro)
      rw [eA] at h
      simp only [rp] at h
      rw [er]; exact h
  · have hlt : m < M := Int.lt_iff_le_and_ne.mpr ⟨imM, hmM⟩
    have hg : (cmp (minF (minF (kF a) (kF b)) (kF c)) (maxF (maxF (kF a) (kF b)) (kF c)) == some .eq) = false := by
      rw [eM, em]
      cases q : (cmp (kF m) (kF M) == some .eq) with
      | false => rfl
      | true => exact absurd (kM.mp q) hmM
    have ⟨fH, H0, H1, D, z, hD, k1, k2⟩ := hue_is ha ha2 hb hb2 hc hc2 eM em oM gM om gm hlt
    generalize hH : hueF (kF a) (kF b) (kF c) = H at *
    have pw : ((2 ^ 1066 : Nat) : Int) ≠ 0 := Int.ofNat_ne_zero.mpr (Nat.ne_of_gt (Nat.two_pow_pos 1066))
    have ⟨fM, vM⟩ := kF_is (a := M) iM0 iM2
    have ⟨fm, vm⟩ := kF_is (a := m) im0 im2
    have ⟨fR, vR⟩ := sub_exact fM fm vM vm (c := M - m) rfl (nat53 (Int.sub_nonneg_of_le imM) (by clear hD oM gM om gm; lia))
    have zM : isZero (kF M) = false := zero_fin' fM (by rw [vM]; exact Int.mul_ne_zero (Int.ne_of_gt (Int.lt_of_le_of_lt im0 hlt)) pw)
    have zR : isZero (sub (kF M) (kF m)) = false := zero_fin' fR (by rw [vR]; exact Int.mul_ne_zero (Int.ne_of_gt (Int.sub_pos_of_lt hlt)) pw)
    cases lt with
    | false =>
      have eT : toHsvF (kF a) (kF b) (kF c) = (H, div (sub (kF M) (kF m)) (kF M), kF M) := by rw [toHsvF_2 hg hH, eM, em]
      have ⟨bk, X, Y, Z, eX, nX, nY, nZ⟩ := hsv_back (t := t) im0 iM2 oM gM om gm hlt hD ht ht2 fH H0 H1 k1 k2
      have eA : turnA a b c t = (X, Y, Z) := by unfold turnA; rw [eT]; exact eX
      have ⟨ro1, rp1⟩ := near_same x0 x1 nX
      have ⟨ro2, rp2⟩ := near_same y0 y1 nY
      have ⟨ro3, rp3⟩ := near_same z0 z1 nZ
      have h := turnA_spec w l a b c t ta tb tc tt nn news ha ha2 hb hb2 hc hc2 ht ht2 (fun _ => by rw [eM, em]; exact ⟨zM, zR⟩) (by rw [eT]; exact bk) (by rw [eT]; exact hue_lo fH H0) (by rw [eT]; exact hue_hi fH H1) (by rw [eA]; exact ro1) (by rw [eA]; exact ro2) (by rw [eA]; exact ro3)
      rw [eA] at h
      simp only [rp1, rp2, rp3] at h
      exact h
    | true =>
      have ⟨zS, zT, hS⟩ := hls_sat (M := M) (m := m) im0 iM2 hlt
      obtain ⟨S, eT, hS1, hS2⟩ : ∃ S, toHlsF (kF a) (kF b) (kF c) = (H, div (add (kF M) (kF m)) 4611686018427387904, S) ∧
          ((cmp (div (add (kF M) (kF m)) 4611686018427387904) 4602678819172646912 == some .lt || cmp (div (add (kF M) (kF m)) 4611686018427387904) 4602678819172646912 == some .eq) = true → S = div (sub (kF M) (kF m)) (add (kF M) (kF m))) ∧
          ((cmp (div (add (kF M) (kF m)) 4611686018427387904) 4602678819172646912 == some .lt || cmp (div (add (kF M) (kF m)) 4611686018427387904) 4602678819172646912 == some .eq) = false → S = div (sub (kF M) (kF m)) (sub (sub 4611686018427387904 (kF M)) (kF m))) := by
        unfold toHlsF
        rw [if_neg (by rw [hg]; decide), hH, eM, em]
        refine ⟨_, rfl, fun q => if_pos q, fun q => if_neg (by rw [q]; decide)⟩
      have ⟨nz, c2, c1⟩ := hS S hS1 hS2
      have ⟨nX, nY, nZ⟩ := hls_back (t := t) im0 iM2 oM gM om gm hlt hD ht ht2 fH H0 H1 c1 c2 k1 k2
      have eA : turnB a b c t = (vF (sub (mul 4611686018427387904 (div (add (kF M) (kF m)) 4611686018427387904)) (m2F (div (add (kF M) (kF m)) 4611686018427387904) S)) (m2F (div (add (kF M) (kF m)) 4611686018427387904) S) (add (sub H (thF (3 - t))) 4599676419421066581),
          vF (sub (mul 4611686018427387904 (div (add (kF M) (kF m)) 4611686018427387904)) (m2F (div (add (kF M) (kF m)) 4611686018427387904) S)) (m2F (div (add (kF M) (kF m)) 4611686018427387904) S) (sub H (thF (3 - t))),
          vF (sub (mul 4611686018427387904 (div (add (kF M) (kF m)) 4611686018427387904)) (m2F (div (add (kF M) (kF m)) 4611686018427387904) S)) (m2F (div (add (kF M) (kF m)) 4611686018427387904) S) (sub (sub H (thF (3 - t))) 4599676419421066581)) := by
        unfold turnB; rw [eT]; unfold hlsToF; dsimp only; rw [if_neg (by rw [nz]; decide)]
      have ⟨ro1, rp1⟩ := near_same x0 x1 nX
      have ⟨ro2, rp2⟩ := near_same y0 y1 nY
      have ⟨ro3, rp3⟩ := near_same z0 z1 nZ
      have h := turnB_spec w l a b c t ta tb tc tt nn news ha ha2 hb hb2 hc hc2 ht ht2 (fun _ => by rw [eM, em]; exact ⟨zS, zT, zR⟩) (by rw [eT]; exact hue_lo fH H0) (by rw [eT]; exact hue_hi fH H1) (by rw [eA]; exact ro1) (by rw [eA]; exact ro2) (by rw [eA]; exact ro3)
      rw [eA] at h
      simp only [rp1, rp2, rp3] at h
      exact h
end Mine
end
/-! LawLoop -/
section
open PySem PySem.W PyProof.Rows
set_option maxRecDepth 100000
set_option maxHeartbeats 0
namespace Mine
local macro_rules | `(tactic| k_room) => `(tactic| ktr_room)
local macro_rules | `(tactic| k_units) => `(tactic| ktr_units)
local macro_rules | `(tactic| k_all) => `(tactic| assumption)
theorem my_item {prog : Program} {w : World} {A : Around} {E : Value → Shared → Prop} {s : Shared} {value slice : PySem.Expr} {l : Addr} {vs : List Value} {k : Int} {u : Tok} {v : Value} {Q : Value → Shared → Prop}
    (hl : s.heap.IsList l vs.toArray) (h0 : 0 ≤ k) (hhi : k < 2 ^ 63) (hx : vs[k.toNat]? = some v) (h : Q v s)
    (hs : subscripted slice false (.ref l) (.int k u) = operate [.ref l, .int k u] (getItem (.ref l) (.int k u)) := by with_unfolding_all rfl) :
    wpAny (model prog w) A (subscriptTail value slice (.ref l) (.int k u)) Q E s :=
  tail_any hl.typeIs slot_list_getitem.lookup (wpAny_getItem_list hl h0 hhi (by simpa using hx) h) hs
theorem turned_mem (w : World) (l : Addr) (a b c t : Int) (lt : Bool) (ta tb tc tt : Tok) (nn : Nat) (news : List (Addr × Obj)) (hm : (l, listOf #[.int a ta, .int b tb, .int c tc] nn) ∈ news) (ha : 0 ≤ a) (ha2 : a ≤ 256) (hb : 0 ≤ b) (hb2 : b ≤ 256) (hc : 0 ≤ c) (hc2 : c ≤ 256) (ht : 0 ≤ t) (ht2 : t ≤ 2) :
    Spec w 143 [.ref l, .int t tt, .bool lt] 4 news (OutL (rotP t (a, b, c)).1 (rotP t (a, b, c)).2.1 (rotP t (a, b, c)).2.2) := spec_mem (turned_spec w l a b c t lt ta tb tc tt nn news ha ha2 hb hb2 hc hc2 ht ht2) hm
local macro_rules | `(tactic| walk_at $s:str) => `(tactic| k_extra $s)
theorem walk_on_LawLoop : True := by
  k_with_none
  k_with "InvEndG" => (refine halt ?_)
  k_with "eval ListComp" => (k_here; refine halt ?_)
  k_with "CompSrc" => (refine halt ?_)
  k_with "pyIter ref" => (k_here; (with_reducible show wpAny _ _ (pyIter (Value.ref _)) (fun it s₂ => LoopAtV _ _ _ _ _ _ _ _ _ it s₂) _ _); refine halt ?_)
  k_with "exec For Name Tuple cons nil" => (k_here; (rename Fr _ _ _ _ => zlF'); (with_unfolding_all refine' For_invVF zlF' ?zhk1 ?zhk2 ?_; (case zhk1 => exact rfl); (case zhk2 => exact rfl); k_whole))
  k_with "exec For Name Call cons nil" => (k_here; (rename Fr _ _ _ _ => zlF'); (with_unfolding_all refine' For_invVF zlF' ?zhk1 ?zhk2 ?_; (case zhk1 => exact rfl); (case zhk2 => exact rfl); k_whole))
  k_with "exec For Name Subscript cons nil" => (k_here; (rename Fr _ _ _ _ => zlF'); (with_unfolding_all refine' For_invVF zlF' ?zhk1 ?zhk2 ?_; (case zhk1 => exact rfl); (case zhk2 => exact rfl); k_whole))
  k_with "subscriptTail Name Name ref int" => (k_here; (with_reducible show wpAny _ _ (subscriptTail _ _ (Value.ref _) (Value.int _ _)) _ _ _); k_dflt (refine' my_item ?zhk1 ?zhk2 ?zhk3 ?zhk4 ?_ ?zhk6; (case zhk4 => assumption); (case zhk1 => exact News.isList (by k_asm) (by k_mem)); (case zhk2 => omega); (case zhk3 => omega); (case zhk6 => with_unfolding_all rfl)); (try dsimp only))
  k_with "call ref" => (k_here; (with_reducible show wpAny _ _ (call (Value.ref 143) _) _ _ _); refine halt ?_)
  k_with "call ref" => (k_here; (with_reducible show wpAny _ _ (call (Value.ref 70) _) _ _ _); k_dflt (refine' spec_use (and_spec _ _ _ _ _ _) ?zhk1 ?zhk2 ?zhk3 ?zhk4 ?zhk5 ?zhkK ?zhkDp ?zhkUn ?_); (case zhk1 => k_asm); (case zhk2 => k_asm); (case zhk3 => k_asm); (case zhk4 => k_asm); (case zhk5 => k_asm); (case zhkK => first | (exact rfl) | assumption); (case zhkDp => ktr_room); (case zhkUn => ktr_units); intro zr9 ztl9 zh9 ztk9 zF9 zN9 zhl9 zho9; (obtain ⟨ze9, zt9, ze8⟩ := zho9); subst ze9; subst ze8; simp only [List.nil_append] at zN9; clear zhl9; (try dsimp only); (try k_fold))
  k_with "call ref" => (k_here; (with_reducible show wpAny _ _ (call (Value.ref 77) _) _ _ _); k_dflt (refine' spec_use (lshift_spec _ _ _ _ ?zhkA ?zhkB _) ?zhk1 ?zhk2 ?zhk3 ?zhk4 ?zhk5 ?zhkK ?zhkDp ?zhkUn ?_); (case zhk1 => k_asm); (case zhk2 => k_asm); (case zhk3 => k_asm); (case zhk4 => k_asm); (case zhk5 => k_asm); (case zhkK => first | (exact rfl) | assumption); (case zhkDp => ktr_room); (case zhkUn => ktr_units); (case zhkA => omega); (case zhkB => omega); intro zr9 ztl9 zh9 ztk9 zF9 zN9 zhl9 zho9; (obtain ⟨ze9, zt9, ze8⟩ := zho9); subst ze9; subst ze8; simp only [List.nil_append] at zN9; clear zhl9; (try dsimp only); (try k_fold))
  k_with "call ref" => (k_here; (with_reducible show wpAny _ _ (call (Value.ref 98) _) _ _ _); k_dflt (refine' spec_use (rshift_spec _ _ _ _ _ ?zhkA ?zhkB ?zhkC ?zhkD _) ?zhk1 ?zhk2 ?zhk3 ?zhk4 ?zhk5 ?zhkK ?zhkDp ?zhkUn ?_); (case zhk1 => k_asm); (case zhk2 => k_asm); (case zhk3 => k_asm); (case zhk4 => k_asm); (case zhk5 => k_asm); (case zhkK => first | (exact rfl) | assumption); (case zhkDp => ktr_room); (case zhkUn => ktr_units); (case zhkA => omega); (case zhkB => omega); (case zhkC => omega); (case zhkD => omega); intro zr9 ztl9 zh9 ztk9 zF9 zN9 zhl9 zho9; (obtain ⟨ze9, zt9, ze8⟩ := zho9); subst ze9; subst ze8; simp only [List.nil_append] at zN9; clear zhl9; (try dsimp only); (try k_fold))
  k_with "call ref" => (k_here; (with_reducible show wpAny _ _ (call (Value.ref 84) _) _ _ _); k_dflt (refine' spec_use (mod_spec _ _ _ _ _) ?zhk1 ?zhk2 ?zhk3 ?zhk4 ?zhk5 ?zhkK ?zhkDp ?zhkUn ?_); (case zhk1 => k_asm); (case zhk2 => k_asm); (case zhk3 => k_asm); (case zhk4 => k_asm); (case zhk5 => k_asm); (case zhkK => first | (exact rfl) | assumption); (case zhkDp => ktr_room); (case zhkUn => ktr_units); intro zr9 ztl9 zh9 ztk9 zF9 zN9 zhl9 zho9; (obtain ⟨ze9, zt9, ze8⟩ := zho9); subst ze9; subst ze8; simp only [List.nil_append] at zN9; clear zhl9; (try dsimp only); (try k_fold))
  k_with "call ref" => (k_here; (with_reducible show wpAny _ _ (call (Value.ref 105) _) _ _ _); k_dflt (refine' spec_use (sub_spec _ _ _ _ _ _) ?zhk1 ?zhk2 ?zhk3 ?zhk4 ?zhk5 ?zhkK ?zhkDp ?zhkUn ?_); (case zhk1 => k_asm); (case zhk2 => k_asm); (case zhk3 => k_asm); (case zhk4 => k_asm); (case zhk5 => k_asm); (case zhkK => first | (exact rfl) | assumption); (case zhkDp => ktr_room); (case zhkUn => ktr_units); intro zr9 ztl9 zh9 ztk9 zF9 zN9 zhl9 zho9; (obtain ⟨ze9, zt9, ze8⟩ := zho9); subst ze9; subst ze8; simp only [List.nil_append] at zN9; clear zhl9; (try dsimp only); (try k_fold))
  k_with "call ref" => (k_here; (with_reducible show wpAny _ _ (call (Value.ref 112) _) _ _ _); k_dflt (refine' spec_use (xor_spec _ _ _ _ _ _) ?zhk1 ?zhk2 ?zhk3 ?zhk4 ?zhk5 ?zhkK ?zhkDp ?zhkUn ?_); (case zhk1 => k_asm); (case zhk2 => k_asm); (case zhk3 => k_asm); (case zhk4 => k_asm); (case zhk5 => k_asm); (case zhkK => first | (exact rfl) | assumption); (case zhkDp => ktr_room); (case zhkUn => ktr_units); intro zr9 ztl9 zh9 ztk9 zF9 zN9 zhl9 zho9; (obtain ⟨ze9, zt9, ze8⟩ := zho9); subst ze9; subst ze8; simp only [List.nil_append] at zN9; clear zhl9; (try dsimp only); (try k_fold))
  k_with "call ref" => (k_here; (with_reducible show wpAny _ _ (call (Value.ref 63) _) _ _ _); k_dflt (refine' spec_use (add_spec _ _ _ _ _ _) ?zhk1 ?zhk2 ?zhk3 ?zhk4 ?zhk5 ?zhkK ?zhkDp ?zhkUn ?_); (case zhk1 => k_asm); (case zhk2 => k_asm); (case zhk3 => k_asm); (case zhk4 => k_asm); (case zhk5 => k_asm); (case zhkK => first | (exact rfl) | assumption); (case zhkDp => ktr_room); (case zhkUn => ktr_units); intro zr9 ztl9 zh9 ztk9 zF9 zN9 zhl9 zho9; (obtain ⟨ze9, zt9, ze8⟩ := zho9); subst ze9; subst ze8; simp only [List.nil_append] at zN9; clear zhl9; (try dsimp only); (try k_fold))
  k_with "call ref" => (k_here; (with_reducible show wpAny _ _ (call (Value.ref 91) _) _ _ _); k_dflt (refine' spec_use (neg_spec _ _ _ _) ?zhk1 ?zhk2 ?zhk3 ?zhk4 ?zhk5 ?zhkK ?zhkDp ?zhkUn ?_); (case zhk1 => k_asm); (case zhk2 => k_asm); (case zhk3 => k_asm); (case zhk4 => k_asm); (case zhk5 => k_asm); (case zhkK => first | (exact rfl) | assumption); (case zhkDp => ktr_room); (case zhkUn => ktr_units); intro zr9 ztl9 zh9 ztk9 zF9 zN9 zhl9 zho9; (obtain ⟨ze9, zt9, ze8⟩ := zho9); subst ze9; subst ze8; simp only [List.nil_append] at zN9; clear zhl9; (try dsimp only); (try k_fold))
  k_with "call ref" => (k_here; (with_reducible show wpAny _ _ (call (Value.ref 56) _) _ _ _); k_dflt (refine' spec_use (truth_spec _ _ _ _) ?zhk1 ?zhk2 ?zhk3 ?zhk4 ?zhk5 ?zhkK ?zhkDp ?zhkUn ?_); (case zhk1 => k_asm); (case zhk2 => k_asm); (case zhk3 => k_asm); (case zhk4 => k_asm); (case zhk5 => k_asm); (case zhkK => first | (exact rfl) | assumption); (case zhkDp => ktr_room); (case zhkUn => ktr_units); intro zr9 ztl9 zh9 ztk9 zF9 zN9 zhl9 zho9; (obtain ⟨ze9, ze8⟩ := zho9); subst ze9; subst ze8; simp only [List.nil_append] at zN9; clear zhl9; (try dsimp only); (try k_fold))
  k_with "call ref" => (k_here; (with_reducible show wpAny _ _ (call (Value.ref 119) _) _ _ _); k_dflt (refine' spec_use (getitem_spec _ _ _ _ _ _ _ _ ?zhkM ?zhkI ?zhkA ?zhkB ?zhkC) ?zhk1 ?zhk2 ?zhk3 ?zhk4 ?zhk5 ?zhkK ?zhkDp ?zhkUn ?_); (case zhk1 => k_asm); (case zhk2 => k_asm); (case zhk3 => k_asm); (case zhk4 => k_asm); (case zhk5 => k_asm); (case zhkK => first | (exact rfl) | assumption); (case zhkDp => ktr_room); (case zhkUn => ktr_units); (case zhkM => k_mem); (case zhkI => assumption); (case zhkA => omega); (case zhkB => omega); (case zhkC => omega); intro zr9 ztl9 zh9 ztk9 zF9 zN9 zhl9 zho9; (obtain ⟨ze9, zt9, ze8⟩ := zho9); subst ze9; subst ze8; simp only [List.nil_append] at zN9; clear zhl9; (try dsimp only); (try k_fold))
  k_with "subscriptTail Name BinOp ref int" => (k_here; (with_reducible show wpAny _ _ (subscriptTail _ _ (Value.ref _) (Value.int _ _)) _ _ _); k_dflt (refine' my_item ?zhk1 ?zhk2 ?zhk3 ?zhk4 ?_ ?zhk6; (case zhk4 => assumption); (case zhk1 => exact News.isList (by k_asm) (by k_mem)); (case zhk2 => omega); (case zhk3 => omega); (case zhk6 => with_unfolding_all rfl)); (try dsimp only))
  trivial
theorem look_elim {α : Type} {o : Option α} {x y : α} {G : Prop} (h1 : o = some x) (h2 : o = some y) (k : x = y → G) : G := k (Option.some.inj (h1.symm.trans h2))
theorem ints5 {vs : List Value} {a b c d e : Int} (h : IntsAre vs [a, b, c, d, e]) : ∃ ta tb tc td te, vs = [.int a ta, .int b tb, .int c tc, .int d td, .int e te] := by
  cases h with | cons _ t1 h => cases h with | cons _ t2 h => cases h with | cons _ t3 h => cases h with | cons _ t4 h => cases h with | cons _ t5 h => cases h; exact ⟨_, _, _, _, _, rfl⟩
theorem ints3 {vs : List Value} {a b c : Int} (h : IntsAre vs [a, b, c]) : ∃ ta tb tc, vs = [.int a ta, .int b tb, .int c tc] := by
  cases h with | cons _ t1 h => cases h with | cons _ t2 h => cases h with | cons _ t3 h => cases h; exact ⟨_, _, _, rfl⟩
abbrev LawLoop (w : World) : Prop :=
  ∀ (oc : Value) (od : Option Addr) (osl : Array (Option Value)) (name qual : Str) (params : Arguments) (body : List Stmt) (scope : Scope) (dV kV doc pm : Value) (an : Option Addr) (cdv ct : Value),
    List.lookup 148 (hd.heap_39 w.params) = some ⟨oc, od, .func (fnOf name qual params body scope dV kV doc pm an cdv ct), osl⟩ →
  ∀ (s0 s1 s2 s3 s4 s5 : Stmt) (rest : List Stmt), body = s0 :: s1 :: s2 :: s3 :: s4 :: s5 :: rest →
  ∀ (mean : ExcName → Option Value) (mg mb : Str → Option Value) (base : Heap) (s : Shared) (m : Str → Option Value) (rs : List (Addr × Obj)) (og oSt oSh : Obj) (gv : Option Value) (Dc Dt Dw Ds Dsh : Addr) (cv tv stv shv ys : List Value) (kc kt ks ksh kw : Nat)
    (c0 c1 c2 c3 c4 a b c : Int) (ts : List Int) (R : Result → Shared → Prop),
    Below callerA base [] base → Fr base base.objs.size s.heap m → Frag.In (hd.heap_39 w.params) base → Top hd.view_39 LOOSE mean mg mb base →
    News base base.objs.size s.heap ((base.objs.size + 1 + 1 + 1 + 1, og) :: rs) → (∀ p ∈ rs, p.1 ≠ base.objs.size + 1 + 1 + 1 + 1) → og.data = .cell gv →
    (base.objs.size + 1 + 1, oSt) ∈ rs → oSt.data = .cell (some (.ref Ds)) → (base.objs.size + 1 + 1 + 1, oSh) ∈ rs → oSh.data = .cell (some (.ref Dsh)) →
    m (Str.ofString "cells") = some (.ref Dc) → m (Str.ofString "table") = some (.ref Dt) → m (Str.ofString "words") = some (.ref Dw) →
    (Dc, listOf cv.toArray kc) ∈ rs → IntsAre cv [c0, c1, c2, c3, c4] → (Dt, listOf tv.toArray kt) ∈ rs → IntsAre tv ts → (Ds, listOf stv.toArray ks) ∈ rs → IntsAre stv [a, b, c] → (Dsh, listOf shv.toArray ksh) ∈ rs → IntsAre shv (shAll 3 ts) →
    (Dw, listOf ys.toArray kw) ∈ rs → ys.length = 8 → (∀ j : Nat, j < 8 → ∃ D vs k, ys[j]? = some (.ref D) ∧ (D, listOf vs.toArray k) ∈ rs ∧ IntsAre vs (wdAll (j : Int) 3 [3 + (shAll 3 ts).getD j 0])) →
    ts.length = 8 → (∀ t ∈ ts, 0 ≤ t ∧ t ≤ 2) → 0 ≤ a → a ≤ 256 → 0 ≤ b → b ≤ 256 → 0 ≤ c → c ≤ 256 →
    (∀ m' h' tk', Fr base base.objs.size h' m' → R (.ok (.ret (.bool true))) { s with heap := h', toks := tk' }) →
    wpAny (model Challenge.rw_pe0109_01.row.prog w) (callerA.deeper (envOfC qual scope base.objs.size 148 cdv)) (execs rest (envOfC qual scope base.objs.size 148 cdv))
      (fun f s' => R (.ok (.ret (match f with | .ret v => v | _ => .none))) s')
      (fun e s' => wpAny (model Challenge.rw_pe0109_01.row.prog w) (callerA.deeper (envOfC qual scope base.objs.size 148 cdv)) (leaving (envOfC qual scope base.objs.size 148 cdv) e) (fun _ s'' => R (.error e) s'') (fun e' s'' => R (.error e') s'') s') s
theorem news_dup {h₀ h : Heap} {L : Addr} {p p1 p2 p3 p4 p5 p6 p7 : Addr × Obj} {rs : List (Addr × Obj)} (N : News h₀ L h (p :: rs)) (h1 : p1 ∈ rs) (h2 : p2 ∈ rs) (h3 : p3 ∈ rs) (h4 : p4 ∈ rs) (h5 : p5 ∈ rs) (h6 : p6 ∈ rs) (h7 : p7 ∈ rs) : News h₀ L h (p :: p1 :: p2 :: p3 :: p4 :: p5 :: p6 :: p7 :: rs) := by
  intro q hq
  simp only [List.mem_cons] at hq
  rcases hq with e | e | e | e | e | e | e | e | e
  · rw [e]; exact N _ (.head _)
  all_goals first
    | exact N _ (.tail _ e)
    | (rw [e]; exact N _ (.tail _ (by assumption)))
theorem yes_start {h₀ h : Heap} {L g tp : Addr} {ot og : Obj} {p1 p2 p3 p4 p5 p6 p7 : Addr × Obj} {rs : List (Addr × Obj)} {G : Prop} (N : News h₀ L h ((tp, ot) :: (g, og) :: p1 :: p2 :: p3 :: p4 :: p5 :: p6 :: p7 :: rs)) (hne : ∀ p ∈ rs, p.1 ≠ g) (hlt : g < tp)
    (k : ∀ rs1, News h₀ L h ((g, og) :: rs1) → (∀ p ∈ rs1, p.1 ≠ g) → (∀ p ∈ rs, p ∈ rs1) → (tp, ot) ∈ rs1 → G) : G := by
  refine k ((tp, ot) :: rs) (fun p hp => ?_) (fun p hp => ?_) (fun p hp => .tail _ hp) (.head _)
  · rcases List.mem_cons.mp hp with e | hp
    · rw [e]; exact N _ (.tail _ (.head _))
    · rcases List.mem_cons.mp hp with e | hp
      · rw [e]; exact N _ (.head _)
      · exact N _ (.tail _ (.tail _ (.tail _ (.tail _ (.tail _ (.tail _ (.tail _ (.tail _ (.tail _ hp)))))))))
  · rcases List.mem_cons.mp hp with e | hp
    · rw [e]; exact Nat.ne_of_gt hlt
    · exact hne p hp
theorem yes_item {x : Int} {t u : Tok} {i : Nat} {v : Value} (h : [Value.int (x.fmod 8) t, Value.int (7 - x.fmod 8) u][i]? = some v) : ∃ y ty, v = .int y ty ∧ 0 ≤ y ∧ y ≤ 7 := by
  have e : x.fmod 8 = x % 8 := Int.fmod_eq_emod_of_nonneg x (by decide)
  match i, h with
  | 0, h => exact ⟨_, _, (Option.some.inj h).symm, by rw [e]; omega, by rw [e]; omega⟩
  | 1, h => exact ⟨_, _, (Option.some.inj h).symm, by rw [e]; omega, by rw [e]; omega⟩
  | k + 2, h => cases h
theorem news_dup1 {h₀ h : Heap} {L : Addr} {p p1 : Addr × Obj} {rs : List (Addr × Obj)} (N : News h₀ L h (p :: rs)) (h1 : p1 ∈ rs) : News h₀ L h (p :: p1 :: rs) := by
  intro q hq
  rcases List.mem_cons.mp hq with e | hq
  · rw [e]; exact N _ (.head _)
  · rcases List.mem_cons.mp hq with e | hq
    · rw [e]; exact N _ (.tail _ h1)
    · exact N _ (.tail _ hq)
theorem news_sub3 {h₀ h : Heap} {L : Addr} {p q r : Addr × Obj} {rs : List (Addr × Obj)} (N : News h₀ L h (p :: q :: rs)) (h1 : r ∈ rs) : News h₀ L h (p :: r :: rs) := by
  intro x hx
  rcases List.mem_cons.mp hx with e | hx
  · rw [e]; exact N _ (.head _)
  · rcases List.mem_cons.mp hx with e | hx
    · rw [e]; exact N _ (.tail _ (.tail _ h1))
    · exact N _ (.tail _ (.tail _ hx))
theorem news_dup4 {h₀ h : Heap} {L : Addr} {p q p1 p2 p3 p4 : Addr × Obj} {rs : List (Addr × Obj)} (N : News h₀ L h (p :: q :: rs)) (h1 : p1 ∈ rs) (h2 : p2 ∈ rs) (h3 : p3 ∈ rs) (h4 : p4 ∈ rs) : News h₀ L h (p :: q :: p1 :: p2 :: p3 :: p4 :: rs) := by
  intro x hx
  simp only [List.mem_cons] at hx
  rcases hx with e | e | e | e | e | e | e
  · rw [e]; exact N _ (.head _)
  · rw [e]; exact N _ (.tail _ (.head _))
  all_goals first
    | exact N _ (.tail _ (.tail _ e))
    | (rw [e]; exact N _ (.tail _ (.tail _ (by assumption))))
abbrev triL (P : Tri Int) : List Int := [P.1, P.2.1, P.2.2]
def InR (P : Tri Int) : Prop := 0 ≤ P.1 ∧ P.1 ≤ 256 ∧ 0 ≤ P.2.1 ∧ P.2.1 ≤ 256 ∧ 0 ≤ P.2.2 ∧ P.2.2 ≤ 256
theorem pick_in {P : Tri Int} (h : InR P) (k : Int) : 0 ≤ pick P k ∧ pick P k ≤ 256 := by
  obtain ⟨a, b, c, d, e, f⟩ := h
  unfold pick
  split
  · exact ⟨a, b⟩
  · split
    · exact ⟨c, d⟩
    · exact ⟨e, f⟩
theorem rotG_in {g : Int} {P : Tri Int} (h : InR P) : InR (rotG g P) := ⟨(pick_in h _).1, (pick_in h _).2, (pick_in h _).1, (pick_in h _).2, (pick_in h _).1, (pick_in h _).2⟩
theorem act_in {y n : Int} {P : Tri Int} (h : InR P) : InR (act y P n) := by
  obtain ⟨a, b, c, d, e, f⟩ := h
  unfold act rotP
  split
  · split
    · exact ⟨a, b, c, d, e, f⟩
    · split
      · exact ⟨e, f, a, b, c, d⟩
      · exact ⟨c, d, e, f, a, b⟩
  · split
    · exact ⟨a, b, e, f, c, d⟩
    · exact ⟨a, b, c, d, e, f⟩
theorem actAll_in {y : Int} {ws : List Int} : ∀ {P : Tri Int}, InR P → InR (actAll y P ws) := by
  induction ws with
  | nil => intro P h; exact h
  | cons n r ih => intro P h; unfold actAll; rw [List.foldl_cons]; exact ih (act_in h)
theorem actAll_take {y : Int} {P : Tri Int} {ws : List Int} {i : Nat} {n : Int} (h : ws[i]? = some n) : actAll y P (ws.take (i + 1)) = act y (actAll y P (ws.take i)) n := by
  unfold actAll
  rw [List.take_add_one, h, List.foldl_append]; rfl
theorem word_item {wv : List Value} {ws : List Int} {i : Nat} {v : Value} (h : IntsAre wv ws) (hv : wv[i]? = some v) : ∃ n t, v = .int n t ∧ n ∈ ws ∧ ∀ {y : Int} {P : Tri Int}, actAll y P (ws.take (i + 1)) = act y (actAll y P (ws.take i)) n := by
  have hlt : i < ws.length := by
    rw [← h.length]
    exact (List.getElem?_eq_some_iff.mp hv).1
  obtain ⟨t, ht⟩ := h.get i ws[i] (by simp [hlt])
  rw [hv] at ht
  exact ⟨ws[i], t, Option.some.inj ht, List.getElem_mem hlt, actAll_take (by simp [hlt])⟩
theorem gone_skip {y : Int} {S : List Int} {k : Nat} (h : S.getD ((k : Nat) : Int).toNat 0 = 0) : goneS y S (k + 1) = goneS y S k := by
  have h' : S.getD k 0 = 0 := h
  show goneS y S k + (if Builtin.bitAnd (k : Int) y = (k : Int) then S.getD k 0 else 0) = goneS y S k
  rw [h']; split <;> omega
theorem news_cut {h₀ h : Heap} {L : Addr} {p q p1 p2 p3 p4 : Addr × Obj} {rs : List (Addr × Obj)} (N : News h₀ L h (p :: q :: p1 :: p2 :: p3 :: p4 :: rs)) : News h₀ L h (p :: q :: p4 :: rs) := by
  intro x hx
  simp only [List.mem_cons] at hx
  rcases hx with e | e | e | e
  · rw [e]; exact N _ (.head _)
  · rw [e]; exact N _ (.tail _ (.head _))
  · rw [e]; exact N _ (.tail _ (.tail _ (.tail _ (.tail _ (.tail _ (.head _))))))
  · exact N _ (.tail _ (.tail _ (.tail _ (.tail _ (.tail _ (.tail _ e))))))
theorem inv_endQ {h₀ : Heap} {L : Addr} {J : (Str → Option Value) → List (Addr × Obj) → Prop} {m' : Str → Option Value} {p q p1 p2 p3 p4 : Addr × Obj} {rr rs1 own own2 : List (Addr × Obj)} {s₁ : Shared} {h' : Heap} {tk : Nat} (hrr : rr = rs1 ++ own ++ own2) (F : Fr h₀ L h' m') (N : News h₀ L h' (p :: q :: p1 :: p2 :: p3 :: p4 :: rr))
    (hj : J m' (p :: q :: (rs1 ++ own))) (ha : OwnOff own2 ((p :: q :: (rs1 ++ own)).map (·.1))) : InvEndG h₀ L J own2 s₁ { s₁ with heap := h', toks := tk } := by
  subst hrr
  refine InvEndG.intro F N hj ha (fun x hx => ?_) (fun x hx => .tail _ (.tail _ (.tail _ (.tail _ (.tail _ (.tail _ (List.mem_append_right _ hx)))))))
  rcases List.mem_cons.mp hx with e | hx
  · rw [e]; exact .head _
  · rcases List.mem_cons.mp hx with e | hx
    · rw [e]; exact .tail _ (.head _)
    · exact .tail _ (.tail _ (.tail _ (.tail _ (.tail _ (.tail _ (List.mem_append_left _ hx))))))
theorem act_ge {y n : Int} {P : Tri Int} (h : 3 ≤ n) : act y P n = rotP (n - 3) P := by unfold act; rw [if_pos h]
theorem act_swap {y n : Int} {P : Tri Int} (h : ¬3 ≤ n) (h2 : Builtin.bitAnd (y.fdiv (2 ^ n.toNat)) 1 ≠ 0) : act y P n = (P.1, P.2.2, P.2.1) := by unfold act; rw [if_neg h, if_pos h2]
theorem act_none {y n : Int} {P : Tri Int} (h : ¬3 ≤ n) (h2 : ¬Builtin.bitAnd (y.fdiv (2 ^ n.toNat)) 1 ≠ 0) : act y P n = P := by unfold act; rw [if_neg h, if_neg h2]
theorem allLt_ne {d : Addr} {l : List (Addr × Obj)} : AllLt d l → ∀ p ∈ l, p.1 ≠ d := by
  induction l with
  | nil => intro _ p hp; cases hp
  | cons q r ih =>
    intro h p hp
    obtain ⟨h1, h2⟩ := h
    rcases List.mem_cons.mp hp with e | hp
    · rw [e]; exact Nat.ne_of_lt h1
    · exact ih h2 p hp
theorem inv_end3 {h₀ : Heap} {L : Addr} {J : (Str → Option Value) → List (Addr × Obj) → Prop} {m' : Str → Option Value} {d p q w : Addr × Obj} {rr own : List (Addr × Obj)} {s₁ : Shared} {h' : Heap} {tk : Nat} (F : Fr h₀ L h' m') (N : News h₀ L h' (d :: p :: q :: w :: (rr ++ own)))
    (hj : J m' (p :: d :: w :: rr)) (ha : OwnOff own ((p :: q :: w :: rr).map (·.1))) (hd : ∀ x ∈ rr ++ own, x.1 ≠ d.1) : InvEndG h₀ L J own s₁ { s₁ with heap := h', toks := tk } := by
  refine InvEndG.intro F N hj (fun x hx b hb => ?_) (fun x hx => ?_) (fun x hx => .tail _ (.tail _ (.tail _ (.tail _ (List.mem_append_right _ hx)))))
  · rcases List.mem_cons.mp hb with e | hb
    · rw [e]; exact ha x hx _ (.head _)
    · rcases List.mem_cons.mp hb with e | hb
      · rw [e]; exact hd x (List.mem_append_right _ hx)
      · exact ha x hx _ (.tail _ (.tail _ hb))
  · rcases List.mem_cons.mp hx with e | hx
    · rw [e]; exact .tail _ (.head _)
    · rcases List.mem_cons.mp hx with e | hx
      · rw [e]; exact .head _
      · rcases List.mem_cons.mp hx with e | hx
        · rw [e]; exact .tail _ (.tail _ (.tail _ (.head _)))
        · exact .tail _ (.tail _ (.tail _ (.tail _ (List.mem_append_left _ hx))))
theorem inv_end0 {h₀ : Heap} {L : Addr} {J : (Str → Option Value) → List (Addr × Obj) → Prop} {m' : Str → Option Value} {p q w : Addr × Obj} {rr own : List (Addr × Obj)} {s₁ : Shared} {h' : Heap} {tk : Nat} (F : Fr h₀ L h' m') (N : News h₀ L h' (p :: q :: w :: (rr ++ own)))
    (hj : J m' (p :: q :: w :: rr)) (ha : OwnOff own ((p :: q :: w :: rr).map (·.1))) : InvEndG h₀ L J own s₁ { s₁ with heap := h', toks := tk } :=
  InvEndG.intro F N hj ha (fun x hx => by rw [show p :: q :: w :: (rr ++ own) = (p :: q :: w :: rr) ++ own from rfl]; exact List.mem_append_left _ hx) (fun x hx => .tail _ (.tail _ (.tail _ (List.mem_append_right _ hx))))
theorem word_turn {y : Int} {k : Nat} {S : List Int} {P : Tri Int} (hk : k < 8) (hy : 0 ≤ y) (hy7 : y ≤ 7) (h0 : 0 ≤ S.getD k 0) (h2 : S.getD k 0 ≤ 2) :
    actAll y (rotG (goneS y S k) P) (wdAll (k : Int) 3 [3 + S.getD k 0]) = rotG (goneS y S (k + 1)) P := by
  rw [word_acts (by omega) (by omega) hy hy7 h0 h2]
  show _ = rotG (goneS y S k + (if Builtin.bitAnd (k : Int) y = (k : Int) then S.getD k 0 else 0)) P
  split
  · exact rotP_G P h0 h2
  · rw [Int.add_zero]
theorem all_dup4 {g : Addr} {q p1 p2 p3 p4 : Addr × Obj} {rs : List (Addr × Obj)} (hq : q.1 ≠ g) (h : ∀ p ∈ rs, p.1 ≠ g) (h1 : p1 ∈ rs) (h2 : p2 ∈ rs) (h3 : p3 ∈ rs) (h4 : p4 ∈ rs) : ∀ p ∈ q :: p1 :: p2 :: p3 :: p4 :: rs, p.1 ≠ g := by
  intro x hx
  simp only [List.mem_cons] at hx
  rcases hx with e | e | e | e | e | e
  · rw [e]; exact hq
  all_goals first
    | exact h _ e
    | (rw [e]; exact h _ (by assumption))
theorem all_cons {g : Addr} {q : Addr × Obj} {rs : List (Addr × Obj)} (hq : q.1 ≠ g) (h : ∀ p ∈ rs, p.1 ≠ g) : ∀ p ∈ q :: rs, p.1 ≠ g := by
  intro x hx
  rcases List.mem_cons.mp hx with e | e
  · rw [e]; exact hq
  · exact h _ e
theorem pick_at {a b c : Int} {u v w : Tok} (x : Int) : ∃ t, [Value.int a u, .int b v, .int c w][(x.fmod 3).toNat]? = some (.int (pick (a, b, c) (x.fmod 3)) t) ∧ 0 ≤ x.fmod 3 ∧ x.fmod 3 < 3 := by
  have e := fm3 x
  have h : x.fmod 3 = 0 ∨ x.fmod 3 = 1 ∨ x.fmod 3 = 2 := by omega
  rcases h with h | h | h
  · rw [h]; exact ⟨u, rfl, by decide, by decide⟩
  · rw [h]; exact ⟨v, rfl, by decide, by decide⟩
  · rw [h]; exact ⟨w, rfl, by decide, by decide⟩
theorem gone_yes {y : Int} {S : List Int} {k : Nat} (h : Builtin.bitAnd (k : Int) y = (k : Int)) : goneS y S k + S.getD ((k : Nat) : Int).toNat 0 = goneS y S (k + 1) := by
  show _ = goneS y S k + (if Builtin.bitAnd (k : Int) y = (k : Int) then S.getD k 0 else 0)
  rw [if_pos h]; rfl
theorem gone_no {y : Int} {S : List Int} {k : Nat} (h : ¬Builtin.bitAnd (k : Int) y = (k : Int)) : goneS y S k = goneS y S (k + 1) := by
  show _ = goneS y S k + (if Builtin.bitAnd (k : Int) y = (k : Int) then S.getD k 0 else 0)
  rw [if_neg h, Int.add_zero]
theorem inv_endR {h₀ : Heap} {L : Addr} {J : (Str → Option Value) → List (Addr × Obj) → Prop} {m' : Str → Option Value} {d p q p1 p2 p3 p4 p5 : Addr × Obj} {rr rs1 own own2 : List (Addr × Obj)} {s₁ : Shared} {h' : Heap} {tk : Nat} (hrr : rr = rs1 ++ own ++ own2) (F : Fr h₀ L h' m') (N : News h₀ L h' (d :: p :: q :: p1 :: p2 :: p3 :: p4 :: p5 :: rr))
    (hj : J m' (p :: q :: (rs1 ++ own))) (a0 : Addr) (ha : OwnOff own2 (p.1 :: a0 :: (rs1 ++ own).map (·.1))) (hq : ∀ x ∈ own2, x.1 ≠ q.1) : InvEndG h₀ L J own2 s₁ { s₁ with heap := h', toks := tk } := by
  subst hrr
  refine InvEndG.intro F N hj (fun x hx b hb => ?_) (fun x hx => ?_) (fun x hx => .tail _ (.tail _ (.tail _ (.tail _ (.tail _ (.tail _ (.tail _ (.tail _ (List.mem_append_right _ hx)))))))))
  · rcases List.mem_cons.mp hb with e | hb
    · rw [e]; exact ha x hx _ (.head _)
    · rcases List.mem_cons.mp hb with e | hb
      · rw [e]; exact hq x hx
      · exact ha x hx _ (.tail _ (.tail _ hb))
  · rcases List.mem_cons.mp hx with e | hx
    · rw [e]; exact .tail _ (.head _)
    · rcases List.mem_cons.mp hx with e | hx
      · rw [e]; exact .tail _ (.tail _ (.head _))
      · exact .tail _ (.tail _ (.tail _ (.tail _ (.tail _ (.tail _ (.tail _ (.tail _ (List.mem_append_left _ hx))))))))
theorem inv_endT {h₀ : Heap} {L : Addr} {J : (Str → Option Value) → List (Addr × Obj) → Prop} {m' : Str → Option Value} {p p1 p2 : Addr × Obj} {rs1 own : List (Addr × Obj)} {s₁ : Shared} {h' : Heap} {tk : Nat} (F : Fr h₀ L h' m') (N : News h₀ L h' (p :: p1 :: p2 :: (rs1 ++ own)))
    (hj : J m' (p :: rs1)) (ha : OwnOff own ((p :: rs1).map (·.1))) : InvEndG h₀ L J own s₁ { s₁ with heap := h', toks := tk } := by
  refine InvEndG.intro F N hj ha (fun x hx => ?_) (fun x hx => .tail _ (.tail _ (.tail _ (List.mem_append_right _ hx))))
  rcases List.mem_cons.mp hx with e | hx
  · rw [e]; exact .head _
  · exact .tail _ (.tail _ (.tail _ (List.mem_append_left _ hx)))
/-- behind a statement that may have stored the cell alone -/
def GoneEnd (h₀ : Heap) (L : Addr) (m : Str → Option Value) (rs : List (Addr × Obj)) (g : Addr) (x : Int) (s s' : Shared) : Prop :=
  ∃ og tg h tk, s' = { s with heap := h, toks := tk } ∧ Fr h₀ L h m ∧ News h₀ L h ((g, og) :: rs) ∧ og.data = .cell (some (.int x tg))
theorem cut_gone {prog : Program} {w : World} {A : Around} {E : Value → Shared → Prop} {s : Shared} {r : Sem Flow} {Q : Flow → Shared → Prop} {h₀ : Heap} {L g : Addr} {m : Str → Option Value} {rs : List (Addr × Obj)} {og : Obj} {x : Int}
    (F0 : Fr h₀ L s.heap m) (N0 : News h₀ L s.heap ((g, og) :: rs)) (h1 : wpAny (model prog w) A r (fun f s' => f = .next ∧ GoneEnd h₀ L m rs g x s s') E s)
    (h2 : ∀ og tg h tk, Fr h₀ L h m → News h₀ L h ((g, og) :: rs) → og.data = .cell (some (.int x tg)) → Q .next { s with heap := h, toks := tk }) : wpAny (model prog w) A r Q E s := by
  refine wpAny_mono h1 (fun f s' hq => ?_) fun _ _ e => e
  obtain ⟨rfl, og, tg, h, tk, rfl, F, N, hd⟩ := hq
  exact h2 og tg h tk F N hd
theorem law_loop (w : World) : LawLoop w := by
  unfold LawLoop
  k_fill
  intro oc od osl name qual params body scope dV kV doc pm an cdv ct hlook
  refine' look_elim hlook ?p ?_
  (case p => k_is)
  intro e
  cases e
  clear hlook
  intro s0 s1 s2 s3 s4 s5 rest hb6
  cases hb6
  intro mean mg mb base s m rs og oSt oSh gv Dc Dt Dw Ds Dsh cv tv stv shv ys kc kt ks ksh kw c0 c1 c2 c3 c4 a b c ts R B F X T N hne hog mSt hSt mSh hSh hmC hmT hmW mC iC mT iT mS iS mSs iSs mW lW hW lT hT ha ha2 hb hb2 hc hc2 hret
  obtain ⟨u0, u1, u2, u3, u4, rfl⟩ := ints5 iC
  obtain ⟨v0, v1, v2, rfl⟩ := ints3 iS
  have N1 : News base base.objs.size s.heap ((base.objs.size + 1 + 1 + 1 + 1, og) :: (Dc, listOf #[.int c0 u0, .int c1 u1, .int c2 u2, .int c3 u3, .int c4 u4] kc) :: (Dt, listOf tv.toArray kt) :: (base.objs.size + 1 + 1, oSt) :: (base.objs.size + 1 + 1 + 1, oSh) ::
      (Ds, listOf #[.int a v0, .int b v1, .int c v2] ks) :: (Dsh, listOf shv.toArray ksh) :: (Dw, listOf ys.toArray kw) :: rs) := news_dup N mC mT mSt mSh mS mSs mW
  have F1 := fr_say [(Str.ofString "cells", .ref Dc), (Str.ofString "table", .ref Dt), (Str.ofString "words", .ref Dw)] F (allS hmC (allS hmT (allS hmW all0)))
  dsimp only [kstB] at F1
  clear F N mC
  (try dsimp only)
  (try k_fold)
  k_steps
  unfold Halt
  rename News base base.objs.size _ ((_, _) :: (base.objs.size + 1 + 1 + 1 + 1, og) :: _) => N3
  rename Fr base base.objs.size _ _ => F3
  refine yes_start N3 hne (by refine ltN ?_; omega) ?_
  intro rs1 N4 hne1 hsub mtp
  have mT1 := hsub _ mT
  have mSt1 := hsub _ mSt
  have mSh1 := hsub _ mSh
  have mS1 := hsub _ mS
  have mSs1 := hsub _ mSs
  have mW1 := hsub _ mW
  have hW1 : ∀ j : Nat, j < 8 → ∃ D vs k, ys[j]? = some (.ref D) ∧ (D, listOf vs.toArray k) ∈ rs1 ∧ IntsAre vs (wdAll (j : Int) 3 [3 + (shAll 3 ts).getD j 0]) := fun j hj => by
    obtain ⟨D, vs, k, e1, e2, e3⟩ := hW j hj
    exact ⟨D, vs, k, e1, hsub _ e2, e3⟩
  clear N3 hsub hW mT mSt mSh mS mSs mW
  refine tuple_loop (fun i m nx => ∃ og gv, m (Str.ofString "table") = some (.ref Dt) ∧ m (Str.ofString "words") = some (.ref Dw) ∧ nx = (base.objs.size + 1 + 1 + 1 + 1, og) :: rs1 ∧ og.data = .cell gv) rfl (.tail _ mtp) F3 N4 ⟨og, gv, by with_unfolding_all rfl, by with_unfolding_all rfl, rfl, hog⟩ ?_ ?_
  · intro i v m₁ nx h tk own hv hoff hin hJ F4 N5
    refine gen_inv ?_
    intro JA QA hJA
    obtain ⟨og1, gv1, hmT1, hmW1, rfl, hog1⟩ := hJ
    obtain ⟨y, ty, rfl, hy0, hy7⟩ := yes_item hv
    have F5 := fr_sayX [(Str.ofString "table", .ref Dt), (Str.ofString "words", .ref Dw)] F4 (allS hmT1 (allS hmW1 all0)) (allS (show Str.ofString "table" ≠ Str.ofString "yeses" by decide) (allS (show Str.ofString "words" ≠ Str.ofString "yeses" by decide) all0))
    dsimp only [kstB] at F5
    simp only [List.cons_append] at N5
    have N6 := news_dup1 N5 (List.mem_append_left own mSt1)
    have hgo : ∀ p ∈ rs1 ++ own, p.1 ≠ base.objs.size + 1 + 1 + 1 + 1 := fun p hp => (List.mem_append.mp hp).elim (hne1 p) fun q => (ownOff_cons.mp hoff).1 p q
    clear F4 F3 N4 N5
    k_steps
    unfold Halt
    rename IsRange _ _ _ _ _ _ _ _ => R1
    rename Obj => og2
    rename og2.data = _ => hog2
    rename News base base.objs.size _ _ => N7
    refine range_loop (n := 8) (fun k m nx => ∃ og P pv kp lt tg, m (Str.ofString "table") = some (.ref Dt) ∧ m (Str.ofString "words") = some (.ref Dw) ∧ m (Str.ofString "yeses") = some (.int y ty) ∧ m (Str.ofString "parts") = some (.ref P) ∧ m (Str.ofString "light") = some (.bool lt) ∧
      nx = (base.objs.size + 1 + 1 + 1 + 1, og) :: (P, listOf pv.toArray kp) :: (rs1 ++ own) ∧ og.data = .cell (some (.int (goneS y (shAll 3 ts) k) tg)) ∧
      IntsAre pv [(rotG (goneS y (shAll 3 ts) k) (a, b, c)).1, (rotG (goneS y (shAll 3 ts) k) (a, b, c)).2.1, (rotG (goneS y (shAll 3 ts) k) (a, b, c)).2.2] ∧ P ≠ base.objs.size + 1 + 1 + 1 + 1) rfl R1 rfl rfl (by assumption) (N := news_sub3 N7 (List.mem_append_left own mS1))
      ⟨og2, Ds, _, ks, false, _, by with_unfolding_all rfl, by with_unfolding_all rfl, by with_unfolding_all rfl, by with_unfolding_all rfl, by with_unfolding_all rfl, rfl, hog2, iS, hne1 _ mS1⟩ ?_ ?_
    · intro k t3 m₂ nx2 h2 tk2 own2 hk8 hoff2 hJ2 F6 N8
      refine gen_inv ?_
      intro JB QB hJB
      obtain ⟨og3, P, pv, kp, lt, tg, qT, qW, qY, qP, qL, rfl, hog3, hpv, hPne⟩ := hJ2
      obtain ⟨W, wv, kW, hyk, mWk, iWk⟩ := hW1 k hk8
      rw [show k = ((k : Nat) : Int).toNat from rfl] at hyk
      have F7 := fr_sayX [(Str.ofString "table", .ref Dt), (Str.ofString "words", .ref Dw), (Str.ofString "yeses", .int y ty), (Str.ofString "parts", .ref P), (Str.ofString "light", .bool lt)] F6 (allS qT (allS qW (allS qY (allS qP (allS qL all0)))))
        (allS (show Str.ofString "table" ≠ Str.ofString "chosen" by decide) (allS (show Str.ofString "words" ≠ Str.ofString "chosen" by decide) (allS (show Str.ofString "yeses" ≠ Str.ofString "chosen" by decide) (allS (show Str.ofString "parts" ≠ Str.ofString "chosen" by decide) (allS (show Str.ofString "light" ≠ Str.ofString "chosen" by decide) all0)))))
      dsimp only [kstB] at F7
      simp only [List.cons_append] at N8
      obtain ⟨rr, hrr⟩ : ∃ rr, rr = rs1 ++ own ++ own2 := ⟨_, rfl⟩
      rw [← hrr] at N8
      have inrr : ∀ p ∈ rs1, p ∈ rr := fun p hp => by rw [hrr]; exact List.mem_append_left _ (List.mem_append_left _ hp)
      have own2rr : ∀ p ∈ own2, p ∈ rr := fun p hp => by rw [hrr]; exact List.mem_append_right _ hp
      have hgo2 : ∀ p ∈ rr, p.1 ≠ base.objs.size + 1 + 1 + 1 + 1 := fun p hp => by
        rw [hrr] at hp
        exact (List.mem_append.mp hp).elim (hgo p) fun q => (ownOff_cons.mp hoff2).1 p q
      have N9 := news_dup4 N8 (inrr _ mSh1) (inrr _ mSs1) (inrr _ mW1) (inrr _ mWk)
      have hl8 : (shAll 3 ts).length = 8 := by rw [shAll_length, lT]
      have hs02 := shares_in lT hT k
      clear F6 N8 N7
      k_steps
      · unfold Halt
        refine inv_endQ hrr (by assumption) N9 (hJB _ _ ⟨og3, P, pv, kp, lt, tg, by with_unfolding_all rfl, by with_unfolding_all rfl, by with_unfolding_all rfl, by with_unfolding_all rfl, by with_unfolding_all rfl, rfl, ?_, ?_, hPne⟩) hoff2
        · rw [gone_skip (by assumption)]; exact hog3
        · rw [gone_skip (by assumption)]; exact hpv
      · unfold Halt
        rename (shAll 3 ts).getD _ 0 ≠ 0 => hnz
        have fits := wdAll_fits (c := (k : Int)) hs02.1 hs02.2 3 (Nat.le_refl 3)
        refine kdl_iter (l := W) (vs := wv) (nn := kW) (fun i m nx => ∃ P' pv' kp' lt', m (Str.ofString "table") = some (.ref Dt) ∧ m (Str.ofString "words") = some (.ref Dw) ∧ m (Str.ofString "yeses") = some (.int y ty) ∧ m (Str.ofString "chosen") = some (.int k t3) ∧ m (Str.ofString "parts") = some (.ref P') ∧ m (Str.ofString "light") = some (.bool lt') ∧
          nx = (base.objs.size + 1 + 1 + 1 + 1, og3) :: (P', listOf pv'.toArray kp') :: (W, listOf wv.toArray kW) :: rr ∧ IntsAre pv' (triL (actAll y (rotG (goneS y (shAll 3 ts) k) (a, b, c)) ((wdAll (k : Int) 3 [3 + (shAll 3 ts).getD k 0]).take i))) ∧ P' ≠ base.objs.size + 1 + 1 + 1 + 1 ∧ ∀ x ∈ own2, x.1 ≠ P')
          rfl (.tail _ (.tail _ (.head _))) (by assumption) (N := news_cut N9)
          ⟨P, pv, kp, lt, by with_unfolding_all rfl, by with_unfolding_all rfl, by with_unfolding_all rfl, by with_unfolding_all rfl, by with_unfolding_all rfl, by with_unfolding_all rfl, rfl, hpv, hPne, fun x hx => hoff2 x hx _ (.tail _ (.head _))⟩ ?_ ?_
        · intro i v m₃ nx3 h3 tk3 own3 hv hoff3 hin3 hJ3 F8 N10
          refine gen_inv ?_
          intro JC QC hJC
          obtain ⟨P', pv', kp', lt', rT, rW, rY, rC, rP, rL, rfl, hpv', hPne', hPo⟩ := hJ3
          obtain ⟨n, tn, rfl, hn, htake⟩ := word_item iWk hv
          have hfit := fits n hn
          have hrange : InR (actAll y (rotG (goneS y (shAll 3 ts) k) (a, b, c)) ((wdAll (k : Int) 3 [3 + (shAll 3 ts).getD k 0]).take i)) := actAll_in (rotG_in ⟨ha, ha2, hb, hb2, hc, hc2⟩)
          rw [htake] at hJC
          generalize actAll y (rotG (goneS y (shAll 3 ts) k) (a, b, c)) ((wdAll (k : Int) 3 [3 + (shAll 3 ts).getD k 0]).take i) = P1 at *
          obtain ⟨x0, x1, x2⟩ := P1
          obtain ⟨w0, w1, w2, rfl⟩ := ints3 hpv'
          obtain ⟨g1, g2, g3, g4, g5, g6⟩ := hrange
          obtain ⟨f1, f2⟩ := hfit
          dsimp only at g1 g2 g3 g4 g5 g6
          have F9' := fr_sayX [(Str.ofString "table", .ref Dt), (Str.ofString "words", .ref Dw), (Str.ofString "yeses", .int y ty), (Str.ofString "chosen", .int k t3), (Str.ofString "parts", .ref P'), (Str.ofString "light", .bool lt')] F8 (allS rT (allS rW (allS rY (allS rC (allS rP (allS rL all0))))))
            (allS (show Str.ofString "table" ≠ Str.ofString "step" by decide) (allS (show Str.ofString "words" ≠ Str.ofString "step" by decide) (allS (show Str.ofString "yeses" ≠ Str.ofString "step" by decide) (allS (show Str.ofString "chosen" ≠ Str.ofString "step" by decide) (allS (show Str.ofString "parts" ≠ Str.ofString "step" by decide) (allS (show Str.ofString "light" ≠ Str.ofString "step" by decide) all0))))))
          dsimp only [kstB] at F9'
          simp only [List.cons_append] at N10
          clear F8 N9
          clear hog hne hmC hmT hmW iT iSs lW lT iC hW1 hoff hin hv hgo hoff2 hog3 hpv hyk iWk mWk hgo2 hl8 hs02 hnz fits hn
          k_steps
          · unfold Halt
            refine' spec_use (turned_mem _ _ _ _ _ _ _ _ _ _ _ _ _ ?kM ?ka ?kb ?kc ?kd1 ?ke ?kf ?kg ?kh) ?k1 ?k2 ?k3 ?k4 ?k5 ?kK ?kDp ?kUn ?_
            (case k1 => k_asm)
            (case k2 => k_asm)
            (case k3 => k_asm)
            (case k4 => k_asm)
            (case k5 => k_asm)
            (case kK => first | (exact rfl) | assumption)
            (case kDp => ktr_room)
            (case kUn => ktr_units)
            (case kM => k_mem)
            (case ka => omega)
            (case kb => omega)
            (case kc => omega)
            (case kd1 => omega)
            (case ke => omega)
            (case kf => omega)
            (case kg => omega)
            (case kh => omega)
            intro r9 tl9 h9 tk9 F9 N9 hl9 ho9
            obtain ⟨D9, t9, t8, t7, e9, e8⟩ := ho9
            subst e9
            subst e8
            have lt9 := hl9 _ (List.Mem.head _)
            simp only [List.cons_append, List.nil_append] at N9
            clear hl9
            (try dsimp only)
            (try k_fold)
            clear N10 F9' N6 F5 R1
            k_steps
            unfold Halt
            refine inv_end3 (by assumption) (by assumption) (hJC _ _ ⟨List.Mem.tail _ (List.Mem.tail _ (List.Mem.head _)), _, _, _, _, by with_unfolding_all rfl, by with_unfolding_all rfl, by with_unfolding_all rfl, by with_unfolding_all rfl, by with_unfolding_all rfl, by with_unfolding_all rfl, rfl, ?_, fun e => lt9 _ (List.Mem.head _) e.symm, fun x hx => lt9 x (List.Mem.tail _ (List.Mem.tail _ (List.Mem.tail _ (List.mem_append_left _ (own2rr x hx)))))⟩) hoff3 (fun x hx => lt9 x (List.Mem.tail _ (List.Mem.tail _ (List.Mem.tail _ hx))))
            rw [act_ge (by assumption)]
            exact .cons _ _ (.cons _ _ (.cons _ _ .nil))
          · unfold Halt
            rename _ ∧ _ ∧ _ ∧ AllLt _ (rr ++ own3) => l11
            refine inv_end3 (by assumption) (by assumption) (hJC _ _ ⟨List.Mem.tail _ (List.Mem.tail _ (List.Mem.head _)), _, _, _, lt', by with_unfolding_all rfl, by with_unfolding_all rfl, by with_unfolding_all rfl, by with_unfolding_all rfl, by with_unfolding_all rfl, by with_unfolding_all rfl, rfl, ?_, Nat.ne_of_gt l11.1, fun x hx => allLt_ne l11.2.2.2 x (List.mem_append_left _ (own2rr x hx))⟩) hoff3 (allLt_ne l11.2.2.2)
            rw [act_swap (by assumption) (by assumption)]
            exact .cons _ _ (.cons _ _ (.cons _ _ .nil))
          · unfold Halt
            refine inv_end0 (by assumption) (by assumption) (hJC _ _ ⟨List.Mem.tail _ (List.Mem.tail _ (List.Mem.head _)), P', _, kp', lt', by with_unfolding_all rfl, by with_unfolding_all rfl, by with_unfolding_all rfl, by with_unfolding_all rfl, by with_unfolding_all rfl, by with_unfolding_all rfl, rfl, ?_, hPne', hPo⟩) hoff3
            rw [act_none (by assumption) (by assumption)]
            exact hpv'
        · intro m₃ nx3 h3 tk3 hJ3 F8 N10
          obtain ⟨P', pv', kp', lt', rT, rW, rY, rC, rP, rL, rfl, hpv', hPne', hPo⟩ := hJ3
          have hend : actAll y (rotG (goneS y (shAll 3 ts) k) (a, b, c)) ((wdAll (k : Int) 3 [3 + (shAll 3 ts).getD k 0]).take wv.length) = rotG (goneS y (shAll 3 ts) (k + 1)) (a, b, c) := by
            rw [iWk.length, List.take_length]
            exact word_turn hk8 hy0 hy7 hs02.1 hs02.2
          rw [hend] at hpv'
          obtain ⟨w0, w1, w2, rfl⟩ := ints3 hpv'
          have F9' := fr_say [(Str.ofString "table", .ref Dt), (Str.ofString "words", .ref Dw), (Str.ofString "yeses", .int y ty), (Str.ofString "chosen", .int k t3), (Str.ofString "parts", .ref P'), (Str.ofString "light", .bool lt')] F8 (allS rT (allS rW (allS rY (allS rC (allS rP (allS rL all0))))))
          dsimp only [kstB] at F9'
          have N11 := news_dup4 N10 (List.Mem.tail _ (inrr _ mSt1)) (List.Mem.tail _ (inrr _ mSh1)) (List.Mem.tail _ (inrr _ mS1)) (List.Mem.tail _ (inrr _ mSs1))
          have hall := all_dup4 (q := (P', listOf #[.int (rotG (goneS y (shAll 3 ts) (k + 1)) (a, b, c)).1 w0, .int (rotG (goneS y (shAll 3 ts) (k + 1)) (a, b, c)).2.1 w1, .int (rotG (goneS y (shAll 3 ts) (k + 1)) (a, b, c)).2.2 w2] kp')) hPne' (all_cons (q := (W, listOf wv.toArray kW)) (hgo2 _ (inrr _ mWk)) hgo2) (List.Mem.tail _ (inrr _ mSt1)) (List.Mem.tail _ (inrr _ mSh1)) (List.Mem.tail _ (inrr _ mS1)) (List.Mem.tail _ (inrr _ mSs1))
          clear F8 N9 N10 N6 F5 R1
          (try dsimp only)
          (try k_fold)
          walk1
          refine cut_gone (x := goneS y (shAll 3 ts) (k + 1)) F9' N11 ?_ ?_
          · k_steps
            · rename Obj => og9
              rename og9.data = _ => hg9
              rw [gone_yes (by assumption)] at hg9
              first
              | exact ⟨rfl, og9, _, _, _, rfl, by assumption, by assumption, hg9⟩
              | exact ⟨og9, _, _, _, rfl, by assumption, by assumption, hg9⟩
            · have hg9 := hog3
              rw [gone_no (by assumption)] at hg9
              first
              | exact ⟨rfl, og3, _, _, _, rfl, by assumption, by assumption, hg9⟩
              | exact ⟨og3, _, _, _, rfl, by assumption, by assumption, hg9⟩
          · intro og9 tg9 h9 tk9 F9 N9 hg9
            clear hog3 F9' N11
            (try dsimp only)
            (try k_fold)
            k_steps
            unfold Halt
            refine LCg.ListComp_U (F₀ := by k_asm) (by with_unfolding_all rfl) (by decide) (by rfl) (by decide) (by rfl) ?_
            k_steps
            unfold Halt
            rename IsRange _ _ _ _ _ _ _ _ => R9
            refine LCg.CompSrc.range rfl (by assumption) (by assumption) R9 (by decide) rfl (by exact Nat.le_of_ble_eq_true rfl) ?_
            intro g8
            refine compRest_rangeMap (fun i => pick (a, b, c) ((((i : Nat) : Int) - goneS y (shAll 3 ts) (k + 1)).fmod 3)) ?_ ?_
            · intro i9 t9 I9 oI9 C9 oC9 D9 ys9 m9 h9 tk9 E9 hi9 hC9 hx9 F9 N9
              obtain ⟨t8, hx8, hx7, hx6⟩ := pick_at (a := a) (b := b) (c := c) (u := v0) (v := v1) (w := v2) (((i9 : Nat) : Int) - goneS y (shAll 3 ts) (k + 1))
              (try dsimp only)
              k_steps
              exact eltIs rfl F9 N9
            · intro ys9 hy9
              obtain ⟨q0, q1, q2, rfl⟩ := ints3 hy9
              unfold LCg.FinE
              intro D9 h9 tk9 F9 N9 o9
              (try dsimp only)
              k_steps
              · unfold Halt
                exact inv_endR hrr F9 N9 (hJB _ _ ⟨og9, P', _, kp', lt', _, by with_unfolding_all rfl, by with_unfolding_all rfl, by with_unfolding_all rfl, by with_unfolding_all rfl, by with_unfolding_all rfl, rfl, hg9, .cons _ _ (.cons _ _ (.cons _ _ .nil)), hPne'⟩) _ hoff2 hPo
              · rename ¬triL _ = _ => hbad
                exact absurd rfl hbad
    · intro m₂ nx2 h2 tk2 hJ2 F6 N8
      obtain ⟨og3, P, pv, kp, lt, tg, qT, qW, qY, qP, qL, rfl, hog3, hpv, hPne⟩ := hJ2
      have F7 := fr_say [(Str.ofString "table", .ref Dt), (Str.ofString "words", .ref Dw), (Str.ofString "yeses", .int y ty)] F6 (allS qT (allS qW (allS qY all0)))
      dsimp only [kstB] at F7
      have N9 := news_dup1 N8 (List.Mem.tail _ (List.mem_append_left own mT1))
      clear F6 N8 N7 R1 N6 F5
      have hyt : ((y.toNat : Nat) : Int) = y := Int.toNat_of_nonneg hy0
      k_steps
      · rename (goneS y (shAll 3 ts) 8).fmod 3 ≠ _ => hbad
        exact absurd (gone_end lT hy0 hy7 hT) hbad
      · unfold Halt
        exact inv_endT F7 N9 (hJA _ _ ⟨.tail _ mtp, og3, _, by with_unfolding_all rfl, by with_unfolding_all rfl, rfl, hog3⟩) hoff
  · intro m₁ nx h tk hJ F4 N5
    obtain ⟨og1, gv1, hmT1, hmW1, rfl, hog1⟩ := hJ
    clear F3 N4
    k_steps
    exact hret _ _ _ F4
end Mine
end
namespace Mine
theorem walk_off_LawLoop : True := by
  w_top off
  k_with_none
  trivial
end Mine
/-! LawCall -/
section
open PySem PySem.W PyProof.Rows
set_option maxRecDepth 100000
set_option maxHeartbeats 0
namespace Mine
abbrev LawCall (w : World) : Prop := ∀ (mean : ExcName → Option Value) (mg mb : Str → Option Value) (s : Shared) (l : Addr) (sv : List Value) (ns : List Int) (R : Result → Shared → Prop),
  Top hd.view_39 LOOSE mean mg mb s.heap → Frag.In (hd.heap_39 w.params) s.heap → s.heap.IsList l sv.toArray → IntsAre sv ns → ns.length ≤ 63 →
  (∀ h' tk', (∀ b o, s.heap.get? b = some o → h'.get? b = some o) → R (.ok (.ret (.bool true))) { s with heap := h', toks := tk' }) →
  codeAny (model Challenge.rw_pe0109_01.row.prog w) callerA (.call (.ref 148) ⟨[.ref l], []⟩) R s
theorem five (ns : List Int) : ∃ c0 c1 c2 c3 c4 : Int, List.take 5 ns ++ List.drop ((ns.length : Nat) : Int).toNat [0, 5, 200, 40, 96] = [c0, c1, c2, c3, c4] := by
  have h : (List.take 5 ns ++ List.drop ((ns.length : Nat) : Int).toNat [0, 5, 200, 40, 96]).length = 5 := by
    rw [List.length_append, List.length_take, List.length_drop]
    show min 5 ns.length + (5 - ns.length) = 5
    omega
  generalize List.take 5 ns ++ List.drop ((ns.length : Nat) : Int).toNat [0, 5, 200, 40, 96] = l at h
  match l, h with
  | [c0, c1, c2, c3, c4], _ => exact ⟨c0, c1, c2, c3, c4, rfl⟩
theorem gen_m {h₀ h : Heap} {L : Addr} {m : Str → Option Value} {G : Prop} {x : Str} {v : Value} (F : Fr h₀ L h m) (hx : m x = some v) (k : ∀ m', Fr h₀ L h m' → m' x = some v → G) : G := k m F hx
theorem keep5 {h₀ h : Heap} {L : Addr} {d x y z g4 g3 g2 g1 : Addr × Obj} (N : News h₀ L h [d, x, y, z, g4, g3, g2, g1]) : News h₀ L h [d, g4, g3, g2, g1] := by
  intro p hp
  refine N p ?_
  simp only [List.mem_cons, List.not_mem_nil, or_false] at hp ⊢
  rcases hp with e | e | e | e | e <;> simp [e]
theorem keep7 {h₀ h : Heap} {L : Addr} {d x e c g4 g3 g2 g1 : Addr × Obj} (N : News h₀ L h [d, x, e, c, g4, g3, g2, g1]) : News h₀ L h [d, e, c, g4, g3, g2, g1] := by
  intro p hp
  refine N p ?_
  simp only [List.mem_cons, List.not_mem_nil, or_false] at hp ⊢
  rcases hp with e | e | e | e | e | e | e <;> simp [e]
theorem news_dup2 {h₀ h : Heap} {L : Addr} {p1 p2 : Addr × Obj} {rs : List (Addr × Obj)} (N : News h₀ L h rs) (h1 : p1 ∈ rs) (h2 : p2 ∈ rs) : News h₀ L h (p1 :: p2 :: rs) := by
  intro q hq
  simp only [List.mem_cons] at hq
  rcases hq with e | e | e
  · rw [e]; exact N _ h1
  · rw [e]; exact N _ h2
  · exact N _ e
theorem news_drop2 {h₀ h : Heap} {L : Addr} {p p1 p2 : Addr × Obj} {rs : List (Addr × Obj)} (N : News h₀ L h (p :: p1 :: p2 :: rs)) : News h₀ L h (p :: rs) := by
  intro q hq
  rcases List.mem_cons.mp hq with e | hq
  · rw [e]; exact N _ (.head _)
  · exact N _ (.tail _ (.tail _ (.tail _ hq)))
theorem rs_mem {nw : List (Addr × Obj)} {g : Addr} {q : Addr × Obj} (h : q ∈ nw) (hne : q.1 ≠ g) : q ∈ nw.filter (fun p => decide (p.1 ≠ g)) := List.mem_filter.mpr ⟨h, decide_eq_true hne⟩
theorem rs_ne {nw : List (Addr × Obj)} {g : Addr} : ∀ p ∈ nw.filter (fun p => decide (p.1 ≠ g)), p.1 ≠ g := fun p hp => of_decide_eq_true (List.mem_filter.mp hp).2
theorem rs_news {h₀ h : Heap} {L : Addr} {nw : List (Addr × Obj)} {d : Addr × Obj} {g : Addr} {og : Obj} (N : News h₀ L h (d :: nw)) (hg : (g, og) ∈ nw) : News h₀ L h ((g, og) :: d :: nw.filter (fun p => decide (p.1 ≠ g))) := by
  intro q hq
  rcases List.mem_cons.mp hq with e | hq
  · rw [e]; exact N _ (.tail _ hg)
  rcases List.mem_cons.mp hq with e | hq
  · rw [e]; exact N _ (.head _)
  · exact N _ (.tail _ (List.mem_filter.mp hq).1)
theorem list_not_cell {h₀ h : Heap} {L : Addr} {nw : List (Addr × Obj)} {g D : Addr} {og : Obj} {gv : Option Value} {its : Array Value} {k : Nat} (N : News h₀ L h nw) (hg : (g, og) ∈ nw) (hd : og.data = .cell gv) (hm : (D, listOf its k) ∈ nw) : D ≠ g := by
  intro e
  have h1 := (N _ hm).1
  have h2 := (N _ hg).1
  dsimp only at h1 h2
  rw [e, h2] at h1
  have h3 := Option.some.inj h1
  rw [h3] at hd
  cases hd
theorem fmod_in (x : Int) {k : Int} (hk : 0 < k) : 0 ≤ x.fmod k ∧ x.fmod k < k := by
  rw [Int.fmod_eq_emod_of_nonneg x (Int.le_of_lt hk)]
  exact ⟨Int.emod_nonneg x (Int.ne_of_gt hk), Int.emod_lt_of_pos x hk⟩
local macro_rules | `(tactic| k_ne) => `(tactic| (refine neN ?_; (try dsimp only); first | assumption | exact Ne.symm (by assumption)))
local macro_rules | `(tactic| walk_at $s:str) => `(tactic| k_extra $s)
theorem walk_on_LawCall : True := by
  k_with_none
  k_with "exec Assign cons ListComp" => (refine halt ?_)
  k_with "eval ListComp" => (refine halt ?_)
  k_with "CompSrc" => (refine halt ?_)
  k_with "subscriptTail Name Slice ref ref" => (k_here; (with_reducible show wpAny _ _ (subscriptTail _ (PySem.Expr.Slice none (some _) none _) (Value.ref _) (Value.ref _)) _ _ _); k_dflt (refine' kmk_slice_ints ?zhF ?zhN ?zhl ?zhp ?zhq ?zhi ?zhm ?zhc ?_ ?zhs ?zht ?zhz; (case zhF => k_asm); (case zhN => k_asm); (case zhl => kmk_list); (case zhp => kmk_part); (case zhq => kmk_part); (case zhi => assumption); (case zhm => exact kmk_upto (by assumption) (by decide)); (case zhc => kmk_len); (case zhs => with_unfolding_all rfl); (case zht => kmk_pure); (case zhz => kmk_size)); intro zD' zws' zh' zF' zN' zl1 zhI' zhC' zhL'; (try simp only [Int.reduceNeg, Int.neg_neg, Int.reduceToNat] at zhI' zhC' zhL'); (try k_lt zl1); (try k_sweep))
  k_with "subscriptTail Name Slice ref ref" => (k_here; (with_reducible show wpAny _ _ (subscriptTail _ (PySem.Expr.Slice (some (PySem.Expr.Call _ _ _ _)) none none _) (Value.ref _) (Value.ref _)) _ _ _); k_dflt (refine' kmk_slice_ints ?zhF ?zhN ?zhl ?zhp ?zhq ?zhi ?zhm ?zhc ?_ ?zhs ?zht ?zhz; (case zhF => k_asm); (case zhN => k_asm); (case zhl => kmk_list); (case zhp => kmk_part); (case zhq => kmk_part); (case zhi => exact .cons _ _ (.cons _ _ (.cons _ _ (.cons _ _ (.cons _ _ .nil))))); (case zhm => exact kmk_from (.cons _ _ (.cons _ _ (.cons _ _ (.cons _ _ (.cons _ _ .nil))))) (by omega)); (case zhc => kmk_len); (case zhs => with_unfolding_all rfl); (case zht => kmk_pure); (case zhz => kmk_size)); intro zD' zws' zh' zF' zN' zl1 zhI' zhC' zhL'; (try k_lt zl1); (try k_sweep))
  k_with "binaryOp Add ref ref" => (k_here; (with_reducible show wpAny _ _ (binaryOp _ (Value.ref _) (Value.ref _)) _ _ _); k_dflt (refine' kmk_add_ints ?zhF ?zhN ?zha ?zhb ?zhi ?zhj ?_ ?zhz; (case zhF => k_asm); (case zhN => k_asm); (case zha => exact News.isList (by k_asm) (by k_mem)); (case zhb => exact News.isList (by k_asm) (by k_mem)); (case zhi => first | assumption | l_ints); (case zhj => first | assumption | l_ints); (case zhz => (simp only [sizeLine_eq, List.length_append, List.length_take, List.length_drop, List.length_cons, List.length_nil]; omega))); intro Dc ws5 h5 FA NA l9 hI5; refine halt ?_)
  k_with "call ref" => (k_here; (with_reducible show wpAny _ _ (call (Value.ref 133) _) _ _ _); refine halt ?_)
  k_with "call ref" => (k_here; (with_reducible show wpAny _ _ (call (Value.ref 138) _) _ _ _); refine halt ?_)
  trivial
theorem law_call (w : World) : LawCall w := by
  unfold LawCall
  k_fill
  intro mean mg mb s l sv ns R T X hl hi hn hret
  have K0 := below_caller s.heap
  refine' call_cellsN ?r ?o ?d ?lim ?cd ?b ?kd ?nd ?_ ?c1 ?c2 ?c3
  (case r => decide)
  (case o => exact X _ _ (by k_is))
  (case d => rfl)
  (case lim => exact T.nolimit)
  (case cd => exact codeRec_of X (by k_is))
  (case b => rfl)
  (case kd => exact kinds_of (by kinds_ok))
  (case nd => decide)
  (case c1 => rfl)
  (case c2 => rfl)
  (case c3 => rfl)
  intro h₁ tk₁ cells F N0 X0
  obtain ⟨oG0, oH0, oS0, oC0, he, dG, dH, dS, dC⟩ := CellsAre.four X0
  subst he
  obtain ⟨gG, eG⟩ : ∃ g, oG0.data = .cell g := ⟨_, dG⟩
  obtain ⟨gH, eH⟩ : ∃ g, oH0.data = .cell g := ⟨_, dH⟩
  obtain ⟨gS, eS⟩ : ∃ g, oS0.data = .cell g := ⟨_, dS⟩
  obtain ⟨gC, eC⟩ : ∃ g, oC0.data = .cell g := ⟨_, dC⟩
  clear X0 dG dH dS dC
  (try dsimp only)
  (try k_fold)
  k_steps
  unfold Halt
  obtain ⟨c0, c1, c2, c3, c4, e5⟩ := five ns
  rw [e5] at hI5
  obtain ⟨u0, u1, u2, u3, u4, e6⟩ := ints5 hI5
  subst e6
  have q4 := ltN (l9 _ (.tail _ (.tail _ (.tail _ (.head _)))))
  have q3 := ltN (l9 _ (.tail _ (.tail _ (.tail _ (.tail _ (.head _))))))
  have q2 := ltN (l9 _ (.tail _ (.tail _ (.tail _ (.tail _ (.tail _ (.head _)))))))
  have q1 := ltN (l9 _ (.tail _ (.tail _ (.tail _ (.tail _ (.tail _ (.tail _ (.head _))))))))
  clear l9
  dsimp only at q4 q3 q2 q1
  walk1
  rename Fr s.heap _ _ _ => F5
  rename News s.heap _ _ [_, _, _, _, _, _, _, _] => N5
  have N6 := keep5 N5
  refine gen_m F5 (x := Str.ofString "cells") (by with_unfolding_all rfl) ?_
  revert N6
  clear N5
  repeat (rename Fr s.heap _ _ _ => Fx; clear Fx)
  repeat (rename News s.heap _ _ _ => Fx; clear Fx)
  intro N6 m5 F5 hmC
  have F6 := fr_say [(Str.ofString "cells", .ref _)] F5 (allS hmC all0)
  dsimp only [kstB] at F6
  clear F5
  k_steps
  unfold Halt
  rename Obj => oC1
  rename oC1.data = _ => eC1
  obtain ⟨tC, eC2⟩ : ∃ t, oC1.data = .cell (some (.int (1 + (c0 + 5418).fmod 6560) t)) := ⟨_, eC1⟩
  clear eC1
  obtain ⟨code, ecode⟩ : ∃ code : Int, code = 1 + (c0 + 5418).fmod 6560 := ⟨_, rfl⟩
  rw [← ecode] at eC2
  refine LCg.Assign_ListComp_U (F₀ := by k_asm) (by rfl) (by with_unfolding_all rfl) (by rfl) (by decide) (by rfl) (by decide) (by rfl) (by rfl) (by rfl) ?_
  k_steps
  unfold Halt
  rename IsRange _ _ _ _ _ _ _ _ => R9
  refine LCg.CompSrc.range rfl (by assumption) (by assumption) R9 (by decide) rfl (by exact Nat.le_of_ble_eq_true rfl) ?_
  intro g8
  refine compRest_rangeMap (fun i => (code.fdiv (3 ^ i)).fmod 3) ?_ ?_
  · intro i9 t9 I9 oI9 C9 oC9 D9 ys9 m9 h9 tk9 E9 hi9 hC9 hx9 F9 N9
    (try dsimp only)
    k_steps
    · rename _ = (0 : Int) => hz
      exact absurd hz (Int.ne_of_gt (Int.pow_pos (by decide)))
    · exact eltIs rfl (by assumption) (by assumption)
  · intro ys9 hy9
    unfold LCg.FinA
    intro D9 h9 tk9 F9 N9 o9
    (try simp only [LCg.Off1, and_true] at o9)
    (try dsimp only)
    k_steps
    unfold Halt
    obtain ⟨ts, ets⟩ : ∃ ts : List Int, ts = List.map (fun i => (code.fdiv (3 ^ i)).fmod 3) (List.range 8) := ⟨_, rfl⟩
    replace hy9 : IntsAre ys9 ts := by rw [ets]; exact hy9
    refine wpAny_Assign_Name ?_ (by with_unfolding_all rfl)
    refine LCg.ListComp_U (F₀ := by k_asm) (by with_unfolding_all rfl) (by decide) (by rfl) (by decide) (by rfl) ?_
    k_steps
    unfold Halt
    obtain ⟨n1, n2, n3, n4, n5⟩ := o9
    replace n1 := neN n1
    replace n2 := neN n2
    replace n3 := neN n3
    replace n4 := neN n4
    replace n5 := neN n5
    refine LCg.CompSrc.ledger rfl (by assumption) (by assumption) (.head _) (by exact Nat.le_of_ble_eq_true rfl) ?_
    intro g8
    refine compRest_map (fun n => n.fmod 257) (.cons _ _ (.cons _ _ (.cons _ _ .nil))) (Or.inr ⟨_, .head _, rfl, _, rfl⟩) ?_ ?_
    · intro n9 t9 I9 oI9 C9 oC9 D9 ys9 m9 h9 tk9 E9 hn9 hC9 hx9 F9 N9
      (try dsimp only)
      k_steps
      exact eltIs rfl (by assumption) (by assumption)
    · intro ys8 hy8
      unfold LCg.FinE
      intro D8 h8 tk8 F8 N8 o8
      (try simp only [LCg.Off1, and_true] at o8)
      obtain ⟨r1, r2, r3, r4, r5, r6, r7⟩ := o8
      replace r1 := neN r1
      replace r2 := neN r2
      replace r3 := neN r3
      replace r4 := neN r4
      replace r5 := neN r5
      replace r6 := neN r6
      replace r7 := neN r7
      (try dsimp only)
      k_steps
      unfold Halt
      rename Obj => oS1
      rename oS1.data = _ => eS1
      rename Fr _ _ _ _ => F10
      rename News _ _ _ _ => N10
      have N11 := keep7 N10
      have hl8 : ts.length = 8 := by rw [ets]; rfl
      clear N10
      refine' spec_use (specF_to (shares_spec w D9 ys9.length ys9 ts hy9 hl8) ?kS) ?k1 ?k2 ?k3 ?k4 ?k5 ?kK ?kDp ?kUn ?_
      (case k1 => k_asm)
      (case k2 => k_asm)
      (case k3 => k_asm)
      (case k4 => k_asm)
      (case k5 => k_asm)
      (case kK => first | (exact rfl) | assumption)
      (case kDp => ktr_room)
      (case kUn => ktr_units)
      (case kS => exact List.forall_mem_cons.mpr ⟨.tail _ (.head _), List.forall_mem_nil _⟩)
      intro r7 tl7 h7 tk7 F7 N7 hl7 ho7
      obtain ⟨D7, vs7, n7, e7, e6, hy7⟩ := ho7
      subst e7
      subst e6
      have ne7 := hl7 _ (List.Mem.head _)
      simp only [List.cons_append, List.nil_append] at N7
      simp only [List.forall_mem_cons] at ne7
      obtain ⟨u1, u2, u3, u4, u5, u6, u7, _⟩ := ne7
      replace u1 := neN u1
      replace u2 := neN u2
      replace u3 := neN u3
      replace u4 := neN u4
      replace u5 := neN u5
      replace u6 := neN u6
      replace u7 := neN u7
      clear hl7 N11 F10
      (try dsimp only)
      (try k_fold)
      k_steps
      unfold Halt
      rename Obj => oH1
      rename oH1.data = _ => eH1
      rename Fr _ _ _ _ => F12
      rename News _ _ _ _ => N12
      have hs8 : (shAll 3 ts).length = 8 := by rw [shAll_length, hl8]
      refine LCg.Assign_ListComp_U (F₀ := by k_asm) (by rfl) (by with_unfolding_all rfl) (by rfl) (by decide) (by rfl) (by decide) (by rfl) (by rfl) (by rfl) ?_
      k_steps
      unfold Halt
      rename IsRange _ _ _ _ _ _ _ _ => R7
      refine LCg.CompSrc.range rfl (by assumption) (by assumption) R7 (by decide) rfl (by exact Nat.le_of_ble_eq_true rfl) ?_
      clear R7
      rename Fr _ _ _ _ => F12
      rename News _ _ _ _ => N12
      intro g8
      refine compRest_made (fun i => wdAll ((i : Nat) : Int) 3 [3 + (shAll 3 ts).getD i 0]) ?_ ?_
      · intro i9 t9 I9 oI9 C9 oC9 W9 ys9 m9 h9 tk9 nw9 E9 hi9 hs9 hC9 hx9 F9 N9
        replace hi9 : i9 < 8 := hi9
        have M1 := hs9 _ (List.Mem.head _)
        have M2 := hs9 _ (List.Mem.tail _ (List.Mem.tail _ (List.Mem.tail _ (List.Mem.tail _ (List.Mem.tail _ (List.Mem.head _))))))
        have N13 := news_dup2 N9 (List.Mem.tail _ (List.Mem.tail _ (List.Mem.tail _ M1))) (List.Mem.tail _ (List.Mem.tail _ (List.Mem.tail _ M2)))
        clear N9 N12 F12 M1 M2
        (try dsimp only)
        k_steps
        unfold Halt
        refine' spec_use (specF_to (word_spec w _ _ _ _ ?hc ?hc7) ?kS) ?k1 ?k2 ?k3 ?k4 ?k5 ?kK ?kDp ?kUn ?_
        (case k1 => k_asm)
        (case k2 => k_asm)
        (case k3 => k_asm)
        (case k4 => k_asm)
        (case k5 => k_asm)
        (case kK => first | (exact rfl) | assumption)
        (case kDp => ktr_room)
        (case kUn => ktr_units)
        (case hc => omega)
        (case hc7 => omega)
        (case kS => exact fun p hp => nomatch hp)
        intro r4 tl4 h4 tk4 F4 N4 hl4 ho4
        obtain ⟨V4, wv4, n4, e4, e3, hy4⟩ := ho4
        subst e4
        subst e3
        simp only [List.cons_append, List.nil_append] at N4
        exact eltMade F4 (news_drop2 N4) hy4 (fun p hp => hl4 _ (List.Mem.head _) p (List.Mem.tail _ (List.Mem.tail _ hp)))
      · intro ys4 nw4 hl4 hs4 hw4
        unfold LCg.FinA
        intro D4 h4 tk4 F4 N4 o4
        clear F12 N12
        (try dsimp only)
        have G4 := hs4 _ (List.Mem.tail _ (List.Mem.tail _ (List.Mem.tail _ (List.Mem.tail _ (List.Mem.head _)))))
        have i1 := rs_mem (hs4 _ (List.Mem.tail _ (List.Mem.tail _ (List.Mem.tail _ (List.Mem.tail _ (List.Mem.tail _ (List.Mem.tail _ (List.Mem.head _)))))))) (g := s.heap.objs.size + 1 + 1 + 1 + 1) (show (s.heap.objs.size + 1 + 1 : Nat) ≠ s.heap.objs.size + 1 + 1 + 1 + 1 by omega)
        have i2 := rs_mem (hs4 _ (List.Mem.tail _ (List.Mem.tail _ (List.Mem.tail _ (List.Mem.tail _ (List.Mem.tail _ (List.Mem.head _))))))) (g := s.heap.objs.size + 1 + 1 + 1 + 1) (show (s.heap.objs.size + 1 + 1 + 1 : Nat) ≠ s.heap.objs.size + 1 + 1 + 1 + 1 by omega)
        have i3 := rs_mem (hs4 _ (List.Mem.tail _ (List.Mem.tail _ (List.Mem.tail _ (List.Mem.head _))))) (g := s.heap.objs.size + 1 + 1 + 1 + 1) (Nat.ne_of_gt q4)
        have i4 := rs_mem (hs4 _ (List.Mem.tail _ (List.Mem.tail _ (List.Mem.head _)))) (g := s.heap.objs.size + 1 + 1 + 1 + 1) n2.symm
        have i5 := rs_mem (hs4 _ (List.Mem.tail _ (List.Mem.head _))) (g := s.heap.objs.size + 1 + 1 + 1 + 1) r4.symm
        have i6 := rs_mem (hs4 _ (List.Mem.head _)) (g := s.heap.objs.size + 1 + 1 + 1 + 1) u4.symm
        have g4 : ∀ p ∈ (D4, LCg.lst ys4) :: nw4.filter (fun p => decide (p.1 ≠ s.heap.objs.size + 1 + 1 + 1 + 1)), p.1 ≠ s.heap.objs.size + 1 + 1 + 1 + 1 := fun p hp => by
          rcases List.mem_cons.mp hp with e | hp
          · rw [e]; exact list_not_cell N4 (List.Mem.tail _ G4) eG (List.Mem.head _)
          · exact rs_ne p hp
        have hw5 : ∀ j : Nat, j < 8 → ∃ D vs k, ys4[j]? = some (.ref D) ∧ (D, listOf vs.toArray k) ∈ (D4, LCg.lst ys4) :: nw4.filter (fun p => decide (p.1 ≠ s.heap.objs.size + 1 + 1 + 1 + 1)) ∧ IntsAre vs (wdAll (j : Int) 3 [3 + (shAll 3 ts).getD j 0]) := fun j hj => by
          obtain ⟨D, vs, k, e1, e2, e3⟩ := hw4 j hj
          exact ⟨D, vs, k, e1, List.Mem.tail _ (rs_mem e2 (list_not_cell N4 (List.Mem.tail _ G4) eG (List.Mem.tail _ e2))), e3⟩
        have hT : ∀ t ∈ ts, 0 ≤ t ∧ t ≤ 2 := by
          rw [ets]
          intro t ht
          obtain ⟨i, _, e⟩ := List.mem_map.mp ht
          have := fmod_in (code.fdiv (3 ^ i)) (k := 3) (by decide)
          rw [← e]
          exact ⟨this.1, Int.le_of_lt_add_one this.2⟩
        have b2 := fmod_in c2 (k := 257) (by decide)
        have b3 := fmod_in c3 (k := 257) (by decide)
        have b4 := fmod_in c4 (k := 257) (by decide)
        refine' law_loop w _ _ _ _ _ _ _ _ _ _ _ _ _ _ _ ?hlook _ _ _ _ _ _ _ ?hbody mean mg mb s.heap _ _ _ _ _ _ _ Dc D9 D4 D8 D7 _ ys9 ys8 vs7 ys4 _ _ _ _ _ c0 c1 c2 c3 c4 (c2.fmod 257) (c3.fmod 257) (c4.fmod 257) ts R ?B F4 X T (rs_news N4 G4) g4 eG (.tail _ i1) eS1 (.tail _ i2) eH1 ?mC ?mT ?mW (.tail _ i3) hI5 (.tail _ i4) hy9 (.tail _ i5) hy8 (.tail _ i6) hy7 (.head _) hl4 hw5 hl8 hT b2.1 (Int.le_of_lt_add_one b2.2) b3.1 (Int.le_of_lt_add_one b3.2) b4.1 (Int.le_of_lt_add_one b4.2) ?hret
        (case hlook => (refine' Eq.trans ?h1 ?h2; (case h1 => k_is); (case h2 => exact rfl)))
        (case hbody => rfl)
        (case B => exact K0)
        (case mC => with_unfolding_all rfl)
        (case mT => with_unfolding_all rfl)
        (case mW => with_unfolding_all rfl)
        (case hret => exact fun m' h' tk' F' => hret h' tk' F'.keep)
end Mine
end
namespace Mine
theorem walk_off_LawCall : True := by
  w_top off
  k_with_none
  trivial
end Mine
/-! the claim -/
open PySem PySem.W PyProof.Rows
set_option maxRecDepth 100000 in
set_option maxHeartbeats 0 in
theorem PySem.Challenge.cw_pe0109_01_holds : PySem.Challenge.rw_pe0109_01.Holds := by
  refine Mine.hd ?_
  w_on
  k_fill
  intro w s₀ s₁ mg mb G Y fa o pm cd doc dV kV ho hd hcd hD hmg hg args vals as hpre hlay hrd hwl hlo
  have KX := kIn_of Y
  have X := (Ground.X G).1
  have V := (Ground.X G).2
  refine Ground.open G ?_
  intro T B D TE TW
  try (refine guard_noD D (by decide +kernel) ?_; clear D)
  have h148 : mg (Str.ofString "law") = some (.ref 148) := mg_of KX T.g (by k_is)
  have efa : fa = 148 := by
    have := hmg.symm.trans h148
    injection this with h; injection h
  subst efa
  wrow_args hpre hlay hrd hwl hlo
  all_goals (
    first | refine callC_kw (enter_call ?_) | refine enter_call ?_ | refine callC_kw (enter_callW ?_) | refine enter_callW ?_ | w_how
    w_top on)
  refine codeAny_mono ?_ (fun _ _ g => GoodW.toG g)
  refine Mine.law_call w _ mg mb s₁ _ _ _ _ T KX (by assumption) (by assumption) (by omega) ?_
  intro h' tk' keep
  refine ⟨.inl ⟨_, _, _, rfl, raisesW_false ?_, .bool true, ?_, unshared_nil⟩, keep, rfl, hg⟩
  · wrow_none_raised
  · wrow_post
