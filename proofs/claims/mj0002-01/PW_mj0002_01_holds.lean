import PyProof.Rows.All
import Wide.All
import OpenK.AllK
import Wide.FinOn
import PySem.Challenge.RW_mj0002_01
set_option Elab.async false
namespace Mine
local macro_rules | `(tactic| walk_at $s:str) => `(tactic| k_extra $s)
local macro_rules | `(tactic| k_ne) => `(tactic| k_extra "k_ne")
local macro_rules | `(tactic| k_room) => `(tactic| k_extra "k_room")
local macro_rules | `(tactic| size_fits) => `(tactic| k_extra "size_fits")
local macro_rules | `(tactic| k_all) => `(tactic| k_extra "k_all")
local macro_rules | `(tactic| k_lt $_:ident) => `(tactic| k_extra "k_lt")
section
open PySem PySem.W PyProof.Rows
set_option maxRecDepth 100000 in
set_option maxHeartbeats 8000000 in
open_top hd01 for PySem.Challenge.rw_mj0002_01
end
section
open PySem PySem.W PyProof.Rows PySem.Flt
section
noncomputable def fmax2 (x y : UInt64) : UInt64 := if (Float64.cmp x y == some .lt) = true then y else x
noncomputable def fmin2 (x y : UInt64) : UInt64 := if (Float64.cmp y x == some .lt) = true then y else x
noncomputable def fmax3 (x y z : UInt64) : UInt64 := fmax2 (fmax2 x y) z
noncomputable def fmin3 (x y z : UInt64) : UInt64 := fmin2 (fmin2 x y) z
section
variable {prog : Program} {w : World} {A : Around} {E : Value → Shared → Prop} {s : Shared} {Q : Value → Shared → Prop}
theorem max_three_n {x y z : UInt64} {t u r : Tok} {h₀ : Heap} {L : Addr} {m : Str → Option Value} {news : List (Addr × Obj)} (ht : t ≠ 0) (hu : u ≠ 0) (hr : r ≠ 0) (hh : A.handled = none) (F : Fr h₀ L s.heap m) (N : News h₀ L s.heap news)
    (h : ∀ h' tk k, k ≠ 0 → Fr h₀ L h' m → News h₀ L h' news → Q (.float (fmax3 x y z) k) { s with heap := h', toks := tk }) :
    wpAny (model prog w) A (call (.builtin "max") [.float x t, .float y u, .float z r]) Q E s := by
  have hT : (s.heap.push { cls := .type "tuple", data := .seq #[.float x t, .float y u, .float z r] }).IsTuple s.heap.objs.size #[.float x t, .float y u, .float z r] := ⟨_, Heap.get?_push_size _ rfl, rfl, 0, rfl⟩
  refine call_max_three (wpAny_pyIter_tuple hT ?_)
  have hsz : (s.heap.push { cls := .type "tuple", data := .seq #[.float x t, .float y u, .float z r] }).objs.size = s.heap.objs.size + 1 := Heap.size_push ..
  refine ⟨_, [_, s.heap.objs.size], [_], _, _, _, _, rfl, Walks.tuple (A := A.in1) hh _ s.heap.objs.size (by rw [hsz]; exact Nat.ne_of_lt (Nat.lt_succ_self _)) #[.float x t, .float y u, .float z r],
    ⟨⟨_, Heap.get?_push_size _ rfl, rfl, rfl⟩, hT.push _⟩, fun c hc => ?_, by simp, cmpOf_gt #[.float x t, .float y u, .float z r] (by simp [NumV.float]), fun v h' tk hP hk => ?_⟩
  · show c < ((s.heap.push _).push _).objs.size
    rw [Heap.size_push, hsz]
    rcases List.mem_cons.mp hc with rfl | hc
    · rw [hsz]; exact Nat.lt_succ_self _
    · rcases List.mem_cons.mp hc with rfl | hc
      · exact Nat.lt_succ_of_lt (Nat.lt_succ_self _)
      · cases hc
  · have hold : ∀ c o, s.heap.get? c = some o → h'.get? c = some o := fun c o e => by
      refine hk c o (fun hm => ?_) (Heap.get?_push_of_some _ (Heap.get?_push_of_some _ e))
      rcases List.mem_cons.mp hm with e1 | hm
      · have := Heap.lt_size e; rw [e1, hsz] at this; exact Nat.lt_irrefl _ (Nat.lt_of_succ_lt this)
      · cases hm
    have hv : ∃ k, k ≠ 0 ∧ v = .float (fmax3 x y z) k := by
      unfold fmax3 fmax2
      cases h1 : (Float64.cmp x y == some .lt)
      · cases h2 : (Float64.cmp x z == some .lt)
        · exact ⟨t, ht, by simpa [argBest, ltV, h1, h2] using hP.symm⟩
        · exact ⟨r, hr, by simpa [argBest, ltV, h1, h2] using hP.symm⟩
      · cases h2 : (Float64.cmp y z == some .lt)
        · exact ⟨u, hu, by simpa [argBest, ltV, h1, h2] using hP.symm⟩
        · exact ⟨r, hr, by simpa [argBest, ltV, h1, h2] using hP.symm⟩
    obtain ⟨k, hk0, rfl⟩ := hv
    exact h h' tk k hk0 (F.grownK hold) (N.grown hold)
theorem min_three_n {x y z : UInt64} {t u r : Tok} {h₀ : Heap} {L : Addr} {m : Str → Option Value} {news : List (Addr × Obj)} (ht : t ≠ 0) (hu : u ≠ 0) (hr : r ≠ 0) (hh : A.handled = none) (F : Fr h₀ L s.heap m) (N : News h₀ L s.heap news)
    (h : ∀ h' tk k, k ≠ 0 → Fr h₀ L h' m → News h₀ L h' news → Q (.float (fmin3 x y z) k) { s with heap := h', toks := tk }) :
    wpAny (model prog w) A (call (.builtin "min") [.float x t, .float y u, .float z r]) Q E s := by
  have hT : (s.heap.push { cls := .type "tuple", data := .seq #[.float x t, .float y u, .float z r] }).IsTuple s.heap.objs.size #[.float x t, .float y u, .float z r] := ⟨_, Heap.get?_push_size _ rfl, rfl, 0, rfl⟩
  refine call_min_three (wpAny_pyIter_tuple hT ?_)
  have hsz : (s.heap.push { cls := .type "tuple", data := .seq #[.float x t, .float y u, .float z r] }).objs.size = s.heap.objs.size + 1 := Heap.size_push ..
  refine ⟨_, [_, s.heap.objs.size], [_], _, _, _, _, rfl, Walks.tuple (A := A.in1) hh _ s.heap.objs.size (by rw [hsz]; exact Nat.ne_of_lt (Nat.lt_succ_self _)) #[.float x t, .float y u, .float z r],
    ⟨⟨_, Heap.get?_push_size _ rfl, rfl, rfl⟩, hT.push _⟩, fun c hc => ?_, by simp, cmpOf_lt #[.float x t, .float y u, .float z r] (by simp [NumV.float]), fun v h' tk hP hk => ?_⟩
  · show c < ((s.heap.push _).push _).objs.size
    rw [Heap.size_push, hsz]
    rcases List.mem_cons.mp hc with rfl | hc
    · rw [hsz]; exact Nat.lt_succ_self _
    · rcases List.mem_cons.mp hc with rfl | hc
      · exact Nat.lt_succ_of_lt (Nat.lt_succ_self _)
      · cases hc
  · have hold : ∀ c o, s.heap.get? c = some o → h'.get? c = some o := fun c o e => by
      refine hk c o (fun hm => ?_) (Heap.get?_push_of_some _ (Heap.get?_push_of_some _ e))
      rcases List.mem_cons.mp hm with e1 | hm
      · have := Heap.lt_size e; rw [e1, hsz] at this; exact Nat.lt_irrefl _ (Nat.lt_of_succ_lt this)
      · cases hm
    have hv : ∃ k, k ≠ 0 ∧ v = .float (fmin3 x y z) k := by
      unfold fmin3 fmin2
      cases h1 : (Float64.cmp y x == some .lt)
      · cases h2 : (Float64.cmp z x == some .lt)
        · exact ⟨t, ht, by simpa [argBest, ltV, h1, h2] using hP.symm⟩
        · exact ⟨r, hr, by simpa [argBest, ltV, h1, h2] using hP.symm⟩
      · cases h2 : (Float64.cmp z y == some .lt)
        · exact ⟨u, hu, by simpa [argBest, ltV, h1, h2] using hP.symm⟩
        · exact ⟨r, hr, by simpa [argBest, ltV, h1, h2] using hP.symm⟩
    obtain ⟨k, hk0, rfl⟩ := hv
    exact h h' tk k hk0 (F.grownK hold) (N.grown hold)
end
end
end
section
open PySem PySem.W PyProof.Rows PySem.Flt
section
open Float64 (add sub mul div cmp divmod ofInt isZero isFinite isNaN isInf)
noncomputable abbrev c0 : UInt64 := 0
noncomputable abbrev c1 : UInt64 := 4607182418800017408
noncomputable abbrev c2 : UInt64 := 4611686018427387904
noncomputable abbrev c4 : UInt64 := 4616189618054758400
noncomputable abbrev c6 : UInt64 := 4618441417868443648
noncomputable abbrev cHalf : UInt64 := 4602678819172646912
noncomputable abbrev cThird : UInt64 := 4599676419421066581
noncomputable abbrev cSixth : UInt64 := 4595172819793696085
noncomputable abbrev cTwoThird : UInt64 := 4604180019048437077
noncomputable def feq (x y : UInt64) : Bool := cmp x y == some .eq
noncomputable def flt (x y : UInt64) : Bool := cmp x y == some .lt
noncomputable def fle (x y : UInt64) : Bool := cmp x y == some .lt || cmp x y == some .eq
noncomputable def fgt (x y : UInt64) : Bool := cmp x y == some .gt
-- rgb_to_yiq
noncomputable def yiqY (r g b : UInt64) : UInt64 := add (add (mul 4599075939470750515 r) (mul 4603489467105573601 g)) (mul 4592590756007337001 b)
noncomputable def yiqI (r g b : UInt64) : UInt64 := sub (mul 4604840546993784750 (sub r (yiqY r g b))) (mul 4598535507515466056 (sub b (yiqY r g b)))
noncomputable def yiqQ (r g b : UInt64) : UInt64 := add (mul 4602318531202457272 (sub r (yiqY r g b))) (mul 4601057523306793533 (sub b (yiqY r g b)))
-- rgb_to_hsv, rgb_to_hls
noncomputable def mx (r g b : UInt64) : UInt64 := fmax3 r g b
noncomputable def mn (r g b : UInt64) : UInt64 := fmin3 r g b
noncomputable def rg (r g b : UInt64) : UInt64 := sub (fmax3 r g b) (fmin3 r g b)
noncomputable def grey (r g b : UInt64) : Bool := feq (fmin3 r g b) (fmax3 r g b)
noncomputable def cc (r g b x : UInt64) : UInt64 := div (sub (fmax3 r g b) x) (rg r g b)
noncomputable def hue6 (r g b : UInt64) : UInt64 :=
  if feq r (fmax3 r g b) = true then sub (cc r g b b) (cc r g b g)
  else if feq g (fmax3 r g b) = true then sub (add c2 (cc r g b r)) (cc r g b b)
  else sub (add c4 (cc r g b g)) (cc r g b r)
noncomputable def hueOf (r g b : UInt64) : UInt64 := if grey r g b = true then 0 else (divmod (div (hue6 r g b) c6) c1).2
noncomputable def satV (r g b : UInt64) : UInt64 := if grey r g b = true then 0 else div (rg r g b) (fmax3 r g b)
noncomputable def light (r g b : UInt64) : UInt64 := div (add (fmax3 r g b) (fmin3 r g b)) c2
noncomputable def satL (r g b : UInt64) : UInt64 :=
  if grey r g b = true then 0
  else if fle (light r g b) cHalf = true then div (rg r g b) (add (fmax3 r g b) (fmin3 r g b))
  else div (rg r g b) (sub (sub c2 (fmax3 r g b)) (fmin3 r g b))
-- hsv_to_rgb
noncomputable def sec (h : UInt64) : Int := toInt Float64.truncOf (mul h c6)
noncomputable def frc (h : UInt64) : UInt64 := sub (mul h c6) (ofInt (sec h))
noncomputable def vP (s v : UInt64) : UInt64 := mul v (sub c1 s)
noncomputable def vQ (h s v : UInt64) : UInt64 := mul v (sub c1 (mul s (frc h)))
noncomputable def vT (h s v : UInt64) : UInt64 := mul v (sub c1 (mul s (sub c1 (frc h))))
noncomputable def hsvR (h s v : UInt64) : UInt64 :=
  if feq s 0 = true then v else if (sec h).fmod 6 = 0 then v else if (sec h).fmod 6 = 1 then vQ h s v else if (sec h).fmod 6 = 2 then vP s v else if (sec h).fmod 6 = 3 then vP s v else if (sec h).fmod 6 = 4 then vT h s v else v
noncomputable def hsvG (h s v : UInt64) : UInt64 :=
  if feq s 0 = true then v else if (sec h).fmod 6 = 0 then vT h s v else if (sec h).fmod 6 = 1 then v else if (sec h).fmod 6 = 2 then v else if (sec h).fmod 6 = 3 then vQ h s v else if (sec h).fmod 6 = 4 then vP s v else vP s v
noncomputable def hsvB (h s v : UInt64) : UInt64 :=
  if feq s 0 = true then v else if (sec h).fmod 6 = 0 then vP s v else if (sec h).fmod 6 = 1 then vP s v else if (sec h).fmod 6 = 2 then vT h s v else if (sec h).fmod 6 = 3 then v else if (sec h).fmod 6 = 4 then v else vQ h s v
-- hls_to_rgb
noncomputable def fv6 (m1 m2 hue : UInt64) : UInt64 :=
  if flt (divmod hue c1).2 cSixth = true then add m1 (mul (mul (sub m2 m1) (divmod hue c1).2) c6)
  else if flt (divmod hue c1).2 cHalf = true then m2
  else if flt (divmod hue c1).2 cTwoThird = true then add m1 (mul (mul (sub m2 m1) (sub cTwoThird (divmod hue c1).2)) c6)
  else m1
noncomputable def lM2 (l s : UInt64) : UInt64 := if fle l cHalf = true then mul l (add c1 s) else sub (add l s) (mul l s)
noncomputable def lM1 (l s : UInt64) : UInt64 := sub (mul c2 l) (lM2 l s)
noncomputable def hlsR (h l s : UInt64) : UInt64 := if feq s 0 = true then l else fv6 (lM1 l s) (lM2 l s) (add h cThird)
noncomputable def hlsG (h l s : UInt64) : UInt64 := if feq s 0 = true then l else fv6 (lM1 l s) (lM2 l s) h
noncomputable def hlsB (h l s : UInt64) : UInt64 := if feq s 0 = true then l else fv6 (lM1 l s) (lM2 l s) (sub h cThird)
-- yiq_to_rgb
noncomputable def clampF (x : UInt64) : UInt64 := if flt x 0 = true then 0 else if fgt x c1 = true then c1 else x
noncomputable def yR (y i q : UInt64) : UInt64 := clampF (add (add y (mul 4606703976345377586 i)) (mul 4603791717925830846 q))
noncomputable def yG (y i q : UInt64) : UInt64 := clampF (sub (sub y (mul 4598621754083818298 i)) (mul 4603901015759978483 q))
noncomputable def yB (y i q : UInt64) : UInt64 := clampF (add (sub y (mul 4607671262177584182 i)) (mul 4610375502138591871 q))
noncomputable def isF (share : UInt64) (parts whole : Int) : Bool := toInt Float64.nearestOf (mul (mul share (ofInt whole)) (ofInt 1048576)) == parts * 1048576
theorem not_nan_t {x : UInt64} (h : isFinite x = true) : ¬ isNaN x = true := Bool.eq_false_iff.mp (not_nan_of_finite h)
theorem not_inf_t {x : UInt64} (h : isFinite x = true) : ¬ isInf x = true := Bool.eq_false_iff.mp (not_inf_of_finite h)
theorem fmod6 (i : Int) : i.fmod 6 = 0 ∨ i.fmod 6 = 1 ∨ i.fmod 6 = 2 ∨ i.fmod 6 = 3 ∨ i.fmod 6 = 4 ∨ i.fmod 6 = 5 := by
  have h0 := Int.fmod_nonneg_of_pos i (show (0 : Int) < 6 by decide)
  have h1 := Int.fmod_lt_of_pos i (show (0 : Int) < 6 by decide)
  obtain ⟨n, hn⟩ := Int.eq_ofNat_of_zero_le h0
  rw [hn] at h1 ⊢
  have h2 := Int.ofNat_lt.mp h1
  match n, h2 with
  | 0, _ => exact Or.inl rfl
  | 1, _ => exact Or.inr (Or.inl rfl)
  | 2, _ => exact Or.inr (Or.inr (Or.inl rfl))
  | 3, _ => exact Or.inr (Or.inr (Or.inr (Or.inl rfl)))
  | 4, _ => exact Or.inr (Or.inr (Or.inr (Or.inr (Or.inl rfl))))
  | 5, _ => exact Or.inr (Or.inr (Or.inr (Or.inr (Or.inr rfl))))
  | n + 6, h => exact absurd h (Nat.not_lt.mpr (Nat.le_add_left 6 n))
end
end
section
open PySem PySem.W PyProof.Rows
section
noncomputable abbrev loose1 : List Str := looseW hd01.view_39 [Str.ofString "ONE_THIRD", Str.ofString "ONE_SIXTH", Str.ofString "TWO_THIRD"] ++ List.map (fun x => x.name) (recsOf hd01.view_39) ++ List.map (fun x => x.fst) (litsOf hd01.view_39) ++ List.map (fun x => x.name) (clssOf hd01.view_39 (looseW hd01.view_39 [Str.ofString "ONE_THIRD", Str.ofString "ONE_SIXTH", Str.ofString "TWO_THIRD"]))
noncomputable abbrev tup (vs : List Value) : Obj := { cls := .type "tuple", data := .seq vs.toArray }
theorem genTokP {α : Type} {M : Model} {A : Around} {t : Sem α} {Q : α → Shared → Prop} {E : Value → Shared → Prop} {h : Heap} {g : Array GenState} {d : Drawn} {X : Nat} {os : OsState} (H : ∀ tk : Nat, tk ≠ 0 → wpAny M A t Q E ⟨h, g, d, tk, os⟩) : wpAny M A t Q E ⟨h, g, d, X + 1, os⟩ := H _ (Nat.succ_ne_zero _)
/-- a contract: def `f` called with `vs`; what it hands back is told by `Ret`. -/
noncomputable abbrev Con (k : Nat) (w : World) (mean : ExcName → Option Value) (mg mb : Str → Option Value) (f : Addr) (vs : List Value)
    (Ret : Heap → Addr → (Str → Option Value) → List (Addr × Obj) → Shared → (Value → Shared → Prop) → Prop) : Prop :=
  ∀ (dp un : Nat) (gd : Option (List Code)) (cn : Str) (cs : Scope) (a : Addr) (ccd : Value) (cl : List (Str × Addr)) (outer : List Env) (A₀ : Around) (base h₀ : Heap) (L : Addr) (m : Str → Option Value) (s : Shared) (Q E : Value → Shared → Prop) (news : List (Addr × Obj)),
    Below A₀ base outer h₀ → Fr h₀ L s.heap m → (hd01.heap_39 w.params).In h₀ → News h₀ L s.heap news → Top topProg loose1 mean mg mb h₀ → cs.kind = .function → dp + k < recursionLimit → un + 8 * k < cLine →
    Ret h₀ L m news s Q →
    wpAny (model Challenge.rw_mj0002_01.row.prog w) (ktrTop dp un gd cn cs L a ccd cl outer) (call (.ref f) vs) Q E s
/-- hands back a float -/
noncomputable abbrev RetF (x : UInt64) (h₀ : Heap) (L : Addr) (m : Str → Option Value) (news : List (Addr × Obj)) (s : Shared) (Q : Value → Shared → Prop) : Prop :=
  ∀ (t : Tok) (h' : Heap) (tk' : Nat), Fr h₀ L h' m → News h₀ L h' news → Q (.float x t) { s with heap := h', toks := tk' }
/-- hands back a new tuple of three floats -/
noncomputable abbrev RetT (x y z : UInt64) (h₀ : Heap) (L : Addr) (m : Str → Option Value) (news : List (Addr × Obj)) (s : Shared) (Q : Value → Shared → Prop) : Prop :=
  ∀ (p : Addr) (t1 t2 t3 : Tok) (h' : Heap) (tk' : Nat), Fr h₀ L h' m → News h₀ L h' ((p, tup [.float x t1, .float y t2, .float z t3]) :: news) → (∀ q ∈ news, q.1 < p) → Q (.ref p) { s with heap := h', toks := tk' }
/-- hands back a new tuple of three floats, whose tokens are told -/
noncomputable abbrev RetTN (x y z : UInt64) (h₀ : Heap) (L : Addr) (m : Str → Option Value) (news : List (Addr × Obj)) (s : Shared) (Q : Value → Shared → Prop) : Prop :=
  ∀ (p : Addr) (t1 t2 t3 : Tok) (h' : Heap) (tk' : Nat), t1 ≠ 0 → t2 ≠ 0 → t3 ≠ 0 → Fr h₀ L h' m → News h₀ L h' ((p, tup [.float x t1, .float y t2, .float z t3]) :: news) → (∀ q ∈ news, q.1 < p) → Q (.ref p) { s with heap := h', toks := tk' }
noncomputable abbrev RetFN (x : UInt64) (h₀ : Heap) (L : Addr) (m : Str → Option Value) (news : List (Addr × Obj)) (s : Shared) (Q : Value → Shared → Prop) : Prop :=
  ∀ (t : Tok) (h' : Heap) (tk' : Nat), t ≠ 0 → Fr h₀ L h' m → News h₀ L h' news → Q (.float x t) { s with heap := h', toks := tk' }
theorem retTN_use {x y z x' y' z' : UInt64} {h₀ : Heap} {L : Addr} {m : Str → Option Value} {news : List (Addr × Obj)} {s : Shared} {Q : Value → Shared → Prop} {p : Addr} {t1 t2 t3 : Tok} {h' : Heap} {tk' : Nat}
    (hret : RetTN x y z h₀ L m news s Q) (F : Fr h₀ L h' m) (N : News h₀ L h' ((p, tup [.float x' t1, .float y' t2, .float z' t3]) :: news)) (l : ∀ q ∈ news, q.1 < p) (n1 : t1 ≠ 0) (n2 : t2 ≠ 0) (n3 : t3 ≠ 0) (ex : x' = x) (ey : y' = y) (ez : z' = z) :
    Q (.ref p) { s with heap := h', toks := tk' } := by
  subst ex ey ez
  exact hret p t1 t2 t3 h' tk' n1 n2 n3 F N l
theorem retFN_use {x x' : UInt64} {h₀ : Heap} {L : Addr} {m : Str → Option Value} {news : List (Addr × Obj)} {s : Shared} {Q : Value → Shared → Prop} {t : Tok} {h' : Heap} {tk' : Nat}
    (hret : RetFN x h₀ L m news s Q) (F : Fr h₀ L h' m) (N : News h₀ L h' news) (n : t ≠ 0) (ex : x' = x) :
    Q (.float x' t) { s with heap := h', toks := tk' } := by
  subst ex
  exact hret t h' tk' n F N
theorem retT_use {x y z x' y' z' : UInt64} {h₀ : Heap} {L : Addr} {m : Str → Option Value} {news : List (Addr × Obj)} {s : Shared} {Q : Value → Shared → Prop} {p : Addr} {t1 t2 t3 : Tok} {h' : Heap} {tk' : Nat}
    (hret : RetT x y z h₀ L m news s Q) (F : Fr h₀ L h' m) (N : News h₀ L h' ((p, tup [.float x' t1, .float y' t2, .float z' t3]) :: news)) (l : ∀ q ∈ news, q.1 < p) (ex : x' = x) (ey : y' = y) (ez : z' = z) :
    Q (.ref p) { s with heap := h', toks := tk' } := by
  subst ex ey ez
  exact hret p t1 t2 t3 h' tk' F N l
theorem retF_use {x x' : UInt64} {h₀ : Heap} {L : Addr} {m : Str → Option Value} {news : List (Addr × Obj)} {s : Shared} {Q : Value → Shared → Prop} {t : Tok} {h' : Heap} {tk' : Nat}
    (hret : RetF x h₀ L m news s Q) (F : Fr h₀ L h' m) (N : News h₀ L h' news) (ex : x' = x) :
    Q (.float x' t) { s with heap := h', toks := tk' } := by
  subst ex
  exact hret t h' tk' F N
/-- hands back a bool -/
noncomputable abbrev RetB (x : Bool) (h₀ : Heap) (L : Addr) (m : Str → Option Value) (news : List (Addr × Obj)) (s : Shared) (Q : Value → Shared → Prop) : Prop :=
  ∀ (h' : Heap) (tk' : Nat), Fr h₀ L h' m → News h₀ L h' news → Q (.bool x) { s with heap := h', toks := tk' }
theorem drop1 {h₀ h : Heap} {L : Addr} {a : Addr × Obj} {r : List (Addr × Obj)} (N : News h₀ L h (a :: r)) : News h₀ L h r := fun q hq => N q (List.mem_cons_of_mem _ hq)
theorem drop2 {h₀ h : Heap} {L : Addr} {a b : Addr × Obj} {r : List (Addr × Obj)} (N : News h₀ L h (a :: b :: r)) : News h₀ L h r := drop1 (drop1 N)
theorem drop4 {h₀ h : Heap} {L : Addr} {a b c d : Addr × Obj} {r : List (Addr × Obj)} (N : News h₀ L h (a :: b :: c :: d :: r)) : News h₀ L h r := drop2 (drop2 N)
theorem ltAll {l : List (Addr × Obj)} {a b : Addr} {o : Obj} (h : ∀ q ∈ l, q.1 < b) (m : (a, o) ∈ l) : a < b := h _ m
theorem ltAllS {l : List (Addr × Obj)} {a b : Addr} {o : Obj} (h : ∀ q ∈ l, q.1 < b) (m : (a, o) ∈ l) : a < b + 1 := Nat.lt_succ_of_lt (h _ m)
theorem ltAllSS {l : List (Addr × Obj)} {a b : Addr} {o : Obj} (h : ∀ q ∈ l, q.1 < b) (m : (a, o) ∈ l) : a < b + 2 := Nat.lt_succ_of_lt (Nat.lt_succ_of_lt (h _ m))
theorem ltAllSSS {l : List (Addr × Obj)} {a b : Addr} {o : Obj} (h : ∀ q ∈ l, q.1 < b) (m : (a, o) ∈ l) : a < b + 1 + 1 := Nat.lt_succ_of_lt (Nat.lt_succ_of_lt (h _ m))
theorem ltVia {l : List (Addr × Obj)} {a b c : Addr} {o : Obj} (h2 : @LT.lt Nat _ b c) (h : ∀ q ∈ l, q.1 < b) (m : (a, o) ∈ l) : a < c := Nat.lt_trans (h _ m) h2
theorem neAll {l : List (Addr × Obj)} {a : Addr} (h : ∀ q ∈ l, q.1 < a) : ∀ q ∈ l, q.1 ≠ a := fun q hq => Nat.ne_of_lt (h q hq)
theorem compEnd_same {h₀ : Heap} {L I C D : Addr} {m : Str → Option Value} {s₁ : Shared} {oI oC oD : Obj} {S : List (Addr × Obj) → Prop} {rest : Value → List (Addr × Obj) → Prop} {y : Value} {h' : Heap} {tk : Nat} {news' : List (Addr × Obj)}
    (F : Fr h₀ L h' m) (N : News h₀ L h' ((I, oI) :: (C, oC) :: (D, oD) :: news')) (off : LCg.Off3 I C D news') (hS : S news') (r : rest y news') :
    LCg.CompEnd h₀ L m s₁ I oI C oC D oD S rest y { s₁ with heap := h', toks := tk } := LCg.CompEnd.intro F N news' (fun _ hp => hp) off hS r
theorem off1 {D a : Addr} {o : Obj} {l : List (Addr × Obj)} (h : LCg.Off1 D l) (m : (a, o) ∈ l) : a ≠ D := by
  induction l with
  | nil => cases m
  | cons p r ih =>
    rcases List.mem_cons.mp m with e | m
    · subst e; exact h.1
    · exact ih h.2 m
theorem offI {I C D a : Addr} {o : Obj} {l : List (Addr × Obj)} (h : LCg.Off3 I C D l) (m : (a, o) ∈ l) : a ≠ I := (LCg.Off3.mem h _ m).1
theorem offC {I C D a : Addr} {o : Obj} {l : List (Addr × Obj)} (h : LCg.Off3 I C D l) (m : (a, o) ∈ l) : a ≠ C := (LCg.Off3.mem h _ m).2.1
theorem offD {I C D a : Addr} {o : Obj} {l : List (Addr × Obj)} (h : LCg.Off3 I C D l) (m : (a, o) ∈ l) : a ≠ D := (LCg.Off3.mem h _ m).2.2
end
end
section
set_option maxRecDepth 100000
section
open PySem PySem.W PySem.Calls PyProof.Rows
section
variable {prog : Program} {w : World} {A A₀ : Around} {E : Value → Shared → Prop} {s : Shared} {K : Frag} {L : Addr} {h₀ base : Heap} {m mg mb : Str → Option Value} {news : List (Addr × Obj)} {p : Program} {loose : List Str} {mean : ExcName → Option Value}
/-- entering a def that has cells, and what of the caller's heap stays in the ground -/
theorem code_defCG {env : Env} {outer : List Env} {R : Result → Shared → Prop} {name qual : Str} {params : Arguments} {body : List Stmt} {scope : Scope} {dV kV doc pm cdv ct oc : Value} {an od : Option Addr} {osl : Array (Option Value)} {f : Addr} {args : Args} {binds : List (Str × Value)}
    (B : Below A₀ base outer h₀) (F : Fr h₀ L s.heap m) (X₀ : K.In h₀) (N : News h₀ L s.heap news) (T : Top p loose mean mg mb h₀) (hA : A.frames = some (env :: outer)) (hf : env.frame = some L) (hke : env.scope.kind = .function)
    (ho : K.lookup f = some ⟨oc, od, .func (fnOf name qual params body scope dV kV doc pm an cdv ct), osl⟩) (hcd : codeIn K cdv qual = true) (hroom : A.depth < recursionLimit)
    (hbind : BindsTo s (fnOf name qual params body scope dV kV doc pm an cdv ct) args binds) (hkind : (binds.all fun y => scope.names.lookup y.1 == some .local || scope.names.lookup y.1 == some .cell) = true)
    (hnd : ((cellsFrom 0 scope.names []).map (·.1)).Nodup)
    (h : ∀ g L' h₁ tk cells, Fr h₀ L g m → Fr g L' h₁ (bindL (envOfC qual scope L' f cdv).kindOf binds fun _ => none) → News g L' h₁ (cells ++ news) →
      CellsAre (bindC (envOfC qual scope L' f cdv).kindOf binds fun _ => none) (cellsFrom (L' + 1) scope.names []) cells → Below A base (env :: outer) g → K.In g → Top p loose mean mg mb g → (∀ p ∈ news, p.1 < L') → GSub s.heap g (news.map (·.1)) → @LE.le Nat _ s.heap.objs.size L' →
      wpAny (model prog w) (A.deeper (envOfC qual scope L' f cdv)) (execs body (envOfC qual scope L' f cdv))
        (fun fl s' => LeaveK h₀ L m g R (match fl with | .ret v => v | _ => .none) s')
        (fun e s' => wpAny (model prog w) (A.deeper (envOfC qual scope L' f cdv)) (leaving (envOfC qual scope L' f cdv) e) (fun _ s'' => R (.error e) s'') (fun e' s'' => R (.error e') s'') s')
        { s with heap := h₁, toks := tk })
    (hco : scope.isCoroutine = false) (hgen : scope.isGenerator = false) (hk : scope.kind = .function) : codeAny (model prog w) A (.call (.ref f) args) R s := by
  obtain ⟨FG, BG, st, lv⟩ := groundX (R := R) B F N hA hf hke
  refine codeAny_call_function hroom ((X₀.keeps F.keep) _ _ ho) (fd := fnX name qual params body scope [] dV kV doc pm an cdv ct) rfl hco hgen rfl (codeRec_of (X₀.keeps F.keep) hcd) (hbind _ _ _ _ ?_)
  refine wpAny_newFunctionEnv_cells hk (kindsX hkind _) fun env' he s' x => ?_
  subst he
  refine ⟨(T.nolimit.keeps F.keep).keeps x.toInCall.keep, codeAny_func ?_⟩
  obtain ⟨h₁, tk, rfl, _⟩ := x.done
  have hk₁ := x.toInCall.keep
  obtain ⟨cells, NC, Y⟩ := Cl.news (h₀ := s.heap) (Nat.le_refl _) fun n c hm => ⟨x.cell n c (lookup_of_mem_nodup (cellsFrom_names scope.names 0 (s.heap.objs.size + 1) [] [] rfl ▸ hnd) hm), x.above n c hm⟩
  refine wpAny_mono (h _ s.heap.objs.size h₁ tk cells FG ⟨x.toInCall.ns, fun b o e => hk₁ b o (of_hideAll _ e), Nat.le_of_eq (hideAll_size _ _)⟩ (fun p hp => ?_) Y BG (X₀.keeps st) (T.keeps st) (fun p hp => Heap.lt_size (N p hp).1) (fun b o e n => hideAll_get _ e n) (Nat.le_refl _)) (fun fl s' hl => lv _ _ hl) fun _ _ y => y
  rcases List.mem_append.mp hp with hp | hp
  · refine ⟨(NC p hp).1, (NC p hp).2.1, ?_⟩
    cases q : (hideAll s.heap (news.map (·.1))).get? p.1 with
    | none => rfl
    | some o => have := of_hideAll _ q; rw [(NC p hp).2.2] at this; cases this
  · exact ⟨hk₁ _ _ (N p hp).1, Nat.ne_of_lt (Heap.lt_size (N p hp).1), hideAll_none _ (List.mem_map_of_mem hp)⟩
end
end
section
open PySem PySem.W PySem.Calls PyProof.Rows
theorem genTok {α : Type} {M : Model} {A : Around} {t : Sem α} {Q : α → Shared → Prop} {E : Value → Shared → Prop} {h : Heap} {g : Array GenState} {d : Drawn} {X : Nat} {os : OsState} (H : ∀ tk, wpAny M A t Q E ⟨h, g, d, tk, os⟩) : wpAny M A t Q E ⟨h, g, d, X, os⟩ := H X
noncomputable abbrev Keep (h h' : Heap) : Prop := ∀ b o, h.get? b = some o → h'.get? b = some o
/-- a contract with a small ledger; the rest of the heap is kept -/
noncomputable abbrev ConK (k : Nat) (w : World) (mean : ExcName → Option Value) (mg mb : Str → Option Value) (f : Addr) (vs : List Value) (small : List (Addr × Obj))
    (Ret : Shared → (Value → Shared → Prop) → Prop) : Prop :=
  ∀ (dp un : Nat) (gd : Option (List Code)) (cn : Str) (cs : Scope) (a : Addr) (ccd : Value) (cl : List (Str × Addr)) (outer : List Env) (A₀ : Around) (base h₀ : Heap) (L : Addr) (m : Str → Option Value) (s : Shared) (Q E : Value → Shared → Prop),
    Below A₀ base outer h₀ → Fr h₀ L s.heap m → (hd01.heap_39 w.params).In h₀ → News h₀ L s.heap small → Top topProg loose1 mean mg mb h₀ → cs.kind = .function → dp + k < recursionLimit → un + 8 * k < cLine →
    Ret s Q →
    wpAny (model Challenge.rw_mj0002_01.row.prog w) (ktrTop dp un gd cn cs L a ccd cl outer) (call (.ref f) vs) Q E s
noncomputable abbrev RetBK (x : Bool) (s : Shared) (Q : Value → Shared → Prop) : Prop := ∀ (h' : Heap) (tk' : Nat), Keep s.heap h' → Q (.bool x) { s with heap := h', toks := tk' }
theorem keep_of {h₀ g h h' : Heap} {L L' : Addr} {m' : Str → Option Value} {small : List (Addr × Obj)} (N0 : News h₀ L h small) (GS : GSub h g (small.map (·.1))) (F' : Fr g L' h' m') (kN : News h₀ L h' small) : Keep h h' := fun b o e => by
  by_cases hb : b ∈ small.map (·.1)
  · obtain ⟨q, hq, rfl⟩ := List.mem_map.mp hb
    have e1 := (N0 q hq).1
    rw [e] at e1
    cases e1
    exact (kN q hq).1
  · exact F'.keep b o (GS b o e hb)
theorem retBK_use {x x' : Bool} {s : Shared} {Q : Value → Shared → Prop} {h₀ g h' : Heap} {L L' : Addr} {m' : Str → Option Value} {small : List (Addr × Obj)} {tk' : Nat}
    (hret : RetBK x s Q) (N0 : News h₀ L s.heap small) (GS : GSub s.heap g (small.map (·.1))) (F' : Fr g L' h' m') (kN : News h₀ L h' small) (e : x' = x) : Q (.bool x') { s with heap := h', toks := tk' } := by
  subst e
  exact hret h' tk' (keep_of N0 GS F' kN)
end
end
section
set_option maxRecDepth 100000
section
open PySem PySem.W PySem.Calls PyProof.Rows
/-- the table of code objects of `_law_place`: empty, or it holds the lambda's -/
noncomputable def TabOk (pos : Pos) (qual : Str) (ps : Array Value) (c : Addr) (oc : Obj) : Prop :=
  @Ne Nat c 77 ∧ (ps = #[] ∨ (ps = #[rawInt pos.line, rawInt pos.col, .ref c] ∧ ∃ vs t, oc.data = .fields vs ∧ vs[1]? = some (.str qual t)))
section
variable {M : Model} {A : Around} {E : Value → Shared → Prop} {s : Shared} {h₀ : Heap} {L a c : Addr} {m mg mb : Str → Option Value} {cn : Str} {cs : Scope} {ccd : Value} {cl : List (Str × Addr)} {p : Program} {loose : List Str} {mean : ExcName → Option Value}
  {name qual : Str} {params : Arguments} {body : Expr} {scope : Scope} {clos : List (Str × Addr)} {pos : Pos} {firstLine : Nat}
theorem my_lam {Q : Value → Shared → Prop} {pre : List (Addr × Obj)} {ps : Array Value} {c0 : Addr} {oc : Obj} (F : Fr h₀ L s.heap m) (N : News h₀ L s.heap (pre ++ [(77, tabObj ps), (c0, oc)])) (T : Top p loose mean mg mb h₀) (C : CodeHd h₀ c 77) (hcd : ccd = .ref c)
    (off : ∀ q ∈ pre, q.1 ≠ 77) (tab : TabOk pos qual ps c0 oc)
    (hcl : closureFor scope (envX cn cs L a ccd cl) = pure clos)
    (h : ∀ f c1 oc1 ps1 vs t ctv h' tk, Fr h₀ L h' m →
      News h₀ L h' ((f, kla_obj name qual params body scope clos ((mg "__name__").getD .none) c1 ctv) :: (pre ++ [(77, tabObj ps1), (c1, oc1), (c0, oc)])) →
      oc1.data = .fields vs → vs[1]? = some (.str qual t) → TabOk pos qual ps1 c1 oc1 → @Ne Nat c1 77 → (∀ q ∈ pre, q.1 < f) → @LT.lt Nat _ 77 f → @LT.lt Nat _ c1 f → @LT.lt Nat _ c0 f → (c1 = c0 ∨ ∀ q ∈ pre, q.1 < c1) → Q (.ref f) { s with heap := h', toks := tk }) :
    wpAny M A (makeFunction name qual params (.expr body) scope (envX cn cs L a ccd cl) [] [] [] pos firstLine) Q E s := by
  obtain ⟨hne, rfl | ⟨rfl, vs, t, hd, hv⟩⟩ := tab
  · have N1 : News h₀ L s.heap ((77, tabObj #[]) :: (c0, oc) :: pre) := fun q hq => N q (by
      simp only [List.mem_cons, List.mem_append, List.not_mem_nil, or_false] at hq ⊢
      rcases hq with e | e | e
      · exact Or.inr (Or.inl e)
      · exact Or.inr (Or.inr e)
      · exact Or.inl e)
    refine kla_nest (news := (77, tabObj #[]) :: (c0, oc) :: pre) F N1 T C hcd (UpdF.head ?_) trivial rfl hcl ?_
    · intro q hq
      rcases List.mem_cons.mp hq with rfl | hq
      · exact hne
      · exact off q hq
    intro f c' oc' vs t ctv h' tk F' N' d1 d2 l1 l2
    have h77 : @LT.lt Nat _ 77 c' := l1 (77, _) (List.mem_cons_self ..)
    have e0 : (#[] ++ #[rawInt pos.line, rawInt pos.col, Value.ref c'] : Array Value) = #[rawInt pos.line, rawInt pos.col, Value.ref c'] := by simp
    rw [e0] at N'
    refine h f c' oc' #[rawInt pos.line, rawInt pos.col, Value.ref c'] vs t ctv h' tk F' (fun q hq => N' q ?_) d1 d2 ⟨Nat.ne_of_gt h77, Or.inr ⟨rfl, vs, t, d1, d2⟩⟩ (Nat.ne_of_gt h77) (fun q hq => Nat.lt_trans (l1 q (List.mem_cons_of_mem _ (List.mem_cons_of_mem _ hq))) l2) (Nat.lt_trans h77 l2) l2 (Nat.lt_trans (l1 (c0, oc) (List.mem_cons_of_mem _ (List.mem_cons_self ..))) l2) (Or.inr fun q hq => l1 q (List.mem_cons_of_mem _ (List.mem_cons_of_mem _ hq)))
    simp only [List.mem_cons, List.mem_append, List.not_mem_nil, or_false] at hq ⊢
    rcases hq with e | e | e | e | e
    · exact Or.inl e
    · exact Or.inr (Or.inr (Or.inr (Or.inr e)))
    · exact Or.inr (Or.inr (Or.inl e))
    · exact Or.inr (Or.inl e)
    · exact Or.inr (Or.inr (Or.inr (Or.inl e)))
  · refine kla_hit (c' := c0) (P := 77) F N T C hcd (List.mem_append_right _ (List.mem_cons_self ..)) trivial (by simp [codeAmong, rawInt]) hcl ?_
    intro f ctv h' tk F' N' l1
    have lc := l1 (c0, oc) (List.mem_append_right _ (List.mem_cons_of_mem _ (List.mem_cons_self ..)))
    refine h f c0 oc _ vs t ctv h' tk F' (fun q hq => N' q ?_) hd hv ⟨hne, Or.inr ⟨rfl, vs, t, hd, hv⟩⟩ hne (fun q hq => l1 q (List.mem_append_left _ hq)) (l1 (77, _) (List.mem_append_right _ (List.mem_cons_self ..))) lc lc (Or.inl rfl)
    simp only [List.mem_cons, List.mem_append, List.not_mem_nil, or_false] at hq ⊢
    rcases hq with e | e | e | e | e
    · exact Or.inl e
    · exact Or.inr (Or.inl e)
    · exact Or.inr (Or.inr (Or.inl e))
    · exact Or.inr (Or.inr (Or.inr e))
    · exact Or.inr (Or.inr (Or.inr e))
end
noncomputable abbrev lamPos : Pos := ⟨114, 46, 114, 75⟩
noncomputable abbrev lamQual : Str := "_law_place.<locals>.<lambda>"
noncomputable abbrev Keep77 (h h' : Heap) : Prop := ∀ b o, @Ne Nat b 77 → h.get? b = some o → h'.get? b = some o
noncomputable def placeOf (r g b sp : Int) : Int :=
  if r ≤ g then
    if g ≤ b then (2 * sp * 2 + -(g - r)).fmod (6 * sp)
    else if r ≤ b then (2 * sp * 1 + (b - r)).fmod (6 * sp)
    else (2 * sp * 1 + -(r - b)).fmod (6 * sp)
  else
    if r ≤ b then (2 * sp * 2 + (r - g)).fmod (6 * sp)
    else if g ≤ b then (2 * sp * 0 + -(b - g)).fmod (6 * sp)
    else (2 * sp * 0 + (g - b)).fmod (6 * sp)
/-- a contract with a small ledger, the table's part in it -/
noncomputable abbrev ConT (k : Nat) (w : World) (mean : ExcName → Option Value) (mg mb : Str → Option Value) (f : Addr) (vs : List Value) (p : Addr) (op : Obj) (v : Tok → Value) : Prop :=
  ∀ (dp un : Nat) (gd : Option (List Code)) (cn : Str) (cs : Scope) (a : Addr) (ccd : Value) (cl : List (Str × Addr)) (outer : List Env) (A₀ : Around) (base h₀ : Heap) (L : Addr) (m : Str → Option Value) (s : Shared) (Q E : Value → Shared → Prop) (ps : Array Value) (c0 : Addr) (oc : Obj),
    Below A₀ base outer h₀ → Fr h₀ L s.heap m → (hd01.heap_39 w.params).In h₀ → News h₀ L s.heap [(p, op), (77, tabObj ps), (c0, oc)] → Top topProg loose1 mean mg mb h₀ → cs.kind = .function → dp + k < recursionLimit → un + 8 * k < cLine →
    @LT.lt Nat _ 77 p → CodeHd base 81 77 → TabOk lamPos lamQual ps c0 oc →
    (∀ (t : Tok) (h' : Heap) (tk' : Nat) (ps1 : Array Value) (c1 : Addr) (oc1 : Obj), Keep77 s.heap h' → News h₀ L h' [(p, op), (77, tabObj ps1), (c1, oc1)] → TabOk lamPos lamQual ps1 c1 oc1 → (c1 = c0 ∨ @LE.le Nat _ s.heap.objs.size c1) → Q (v t) { s with heap := h', toks := tk' }) →
    wpAny (model Challenge.rw_mj0002_01.row.prog w) (ktrTop dp un gd cn cs L a ccd cl outer) (call (.ref f) vs) Q E s
theorem fresh_use {c1 c0 L' : Addr} {n : Nat} {o : Obj} {pre : List (Addr × Obj)} (h : c1 = c0 ∨ ∀ q ∈ pre, q.1 < c1) (hm : (L' + 1, o) ∈ pre) (hL : @LE.le Nat _ n L') : c1 = c0 ∨ @LE.le Nat _ n c1 := by
  rcases h with h | h
  · exact Or.inl h
  · have h1 := h _ hm
    exact Or.inr (Nat.le_trans hL (Nat.le_of_lt (Nat.lt_of_succ_lt h1)))
theorem ret77_use {s : Shared} {Q : Value → Shared → Prop} {h₀ g h' : Heap} {L L' : Addr} {m' : Str → Option Value} {p : Addr} {op : Obj} {ps ps1 : Array Value} {c0 c1 : Addr} {oc oc1 : Obj} {tk' : Nat} {v : Tok → Value} {t : Tok} {vv : Value} {all : List (Addr × Obj)}
    (hret : ∀ (t : Tok) (h' : Heap) (tk' : Nat) (ps1 : Array Value) (c1 : Addr) (oc1 : Obj), Keep77 s.heap h' → News h₀ L h' [(p, op), (77, tabObj ps1), (c1, oc1)] → TabOk lamPos lamQual ps1 c1 oc1 → (c1 = c0 ∨ @LE.le Nat _ s.heap.objs.size c1) → Q (v t) { s with heap := h', toks := tk' })
    (N0 : News h₀ L s.heap [(p, op), (77, tabObj ps), (c0, oc)]) (GS : GSub s.heap g ([(p, op), (77, tabObj ps), (c0, oc)].map (·.1))) (F' : Fr g L' h' m') (kN : News h₀ L h' all)
    (tb : TabOk lamPos lamQual ps1 c1 oc1) (i1 : (p, op) ∈ all) (i2 : (77, tabObj ps1) ∈ all) (i3 : (c1, oc1) ∈ all) (i4 : (c0, oc) ∈ all) (hn : c1 = c0 ∨ @LE.le Nat _ s.heap.objs.size c1) (e : vv = v t) : Q vv { s with heap := h', toks := tk' } := by
  subst e
  refine hret t h' tk' ps1 c1 oc1 (fun b o hb ho => ?_) (fun q hq => kN q ?_) tb hn
  · by_cases hp : b = p
    · subst hp
      have := (N0 (b, op) (by simp)).1
      rw [ho] at this; cases this
      exact (kN _ i1).1
    · by_cases hc : b = c0
      · subst hc
        have := (N0 (b, oc) (by simp)).1
        rw [ho] at this; cases this
        exact (kN _ i4).1
      · exact F'.keep b o (GS b o ho (by simp only [List.map_cons, List.map_nil, List.mem_cons, List.not_mem_nil, or_false]; rintro (h | h | h); exact hp h; exact hb h; exact hc h))
  · simp only [List.mem_cons, List.not_mem_nil, or_false] at hq
    rcases hq with rfl | rfl | rfl
    · exact i1
    · exact i2
    · exact i3
theorem retP_use {s : Shared} {Q : Value → Shared → Prop} {h₀ g h' : Heap} {L L' : Addr} {m' : Str → Option Value} {p : Addr} {op : Obj} {ps ps1 : Array Value} {c0 c1 : Addr} {oc oc1 : Obj} {tk' : Nat} {x x' : Int} {t : Tok} {all : List (Addr × Obj)}
    (hret : ∀ (t : Tok) (h' : Heap) (tk' : Nat) (ps1 : Array Value) (c1 : Addr) (oc1 : Obj), Keep77 s.heap h' → News h₀ L h' [(p, op), (77, tabObj ps1), (c1, oc1)] → TabOk lamPos lamQual ps1 c1 oc1 → (c1 = c0 ∨ @LE.le Nat _ s.heap.objs.size c1) → Q (.int x t) { s with heap := h', toks := tk' })
    (N0 : News h₀ L s.heap [(p, op), (77, tabObj ps), (c0, oc)]) (GS : GSub s.heap g ([(p, op), (77, tabObj ps), (c0, oc)].map (·.1))) (F' : Fr g L' h' m') (kN : News h₀ L h' all)
    (tb : TabOk lamPos lamQual ps1 c1 oc1) (i1 : (p, op) ∈ all) (i2 : (77, tabObj ps1) ∈ all) (i3 : (c1, oc1) ∈ all) (i4 : (c0, oc) ∈ all) (hn : c1 = c0 ∨ @LE.le Nat _ s.heap.objs.size c1) (e : x' = x) : Q (.int x' t) { s with heap := h', toks := tk' } := by
  subst e
  exact ret77_use (v := fun t => .int x' t) hret N0 GS F' kN tb i1 i2 i3 i4 hn rfl
end
end
section
set_option maxRecDepth 100000
section
open PySem PySem.W PySem.Calls PyProof.Rows
/-- the corners by their parts -/
noncomputable def Ord (r g b lo mi hi : Int) : Prop :=
  (r ≤ g ∧ g ≤ b ∧ lo = 0 ∧ mi = 1 ∧ hi = 2) ∨ (r ≤ g ∧ ¬ g ≤ b ∧ r ≤ b ∧ lo = 0 ∧ mi = 2 ∧ hi = 1) ∨ (r ≤ g ∧ ¬ g ≤ b ∧ ¬ r ≤ b ∧ lo = 2 ∧ mi = 0 ∧ hi = 1) ∨
  (¬ r ≤ g ∧ r ≤ b ∧ lo = 1 ∧ mi = 0 ∧ hi = 2) ∨ (¬ r ≤ g ∧ ¬ r ≤ b ∧ g ≤ b ∧ lo = 1 ∧ mi = 2 ∧ hi = 0) ∨ (¬ r ≤ g ∧ ¬ r ≤ b ∧ ¬ g ≤ b ∧ lo = 2 ∧ mi = 1 ∧ hi = 0)
noncomputable abbrev In3 (k : Int) : Prop := k = 0 ∨ k = 1 ∨ k = 2
noncomputable def pick (r g b k : Int) : Int := if k = 0 then r else if k = 1 then g else b
theorem Ord.in3 {r g b lo mi hi : Int} (o : Ord r g b lo mi hi) : In3 lo ∧ In3 mi ∧ In3 hi := by
  rcases o with ⟨_, _, rfl, rfl, rfl⟩ | ⟨_, _, _, rfl, rfl, rfl⟩ | ⟨_, _, _, rfl, rfl, rfl⟩ | ⟨_, _, rfl, rfl, rfl⟩ | ⟨_, _, _, rfl, rfl, rfl⟩ | ⟨_, _, _, rfl, rfl, rfl⟩ <;> decide
theorem place_turn {r g b sp lo mi hi : Int} (o : Ord r g b lo mi hi) (h : (mi - hi).fmod 3 = 2) : (2 * sp * hi + -(pick r g b mi - pick r g b lo)).fmod (6 * sp) = placeOf r g b sp := by
  unfold placeOf
  rcases o with ⟨x, y, rfl, rfl, rfl⟩ | ⟨x, y, z, rfl, rfl, rfl⟩ | ⟨x, y, z, rfl, rfl, rfl⟩ | ⟨x, y, rfl, rfl, rfl⟩ | ⟨x, y, z, rfl, rfl, rfl⟩ | ⟨x, y, z, rfl, rfl, rfl⟩
  · rw [if_pos x, if_pos y]; rfl
  · exact absurd h (by decide)
  · rw [if_pos x, if_neg y, if_neg z]; rfl
  · exact absurd h (by decide)
  · rw [if_neg x, if_neg y, if_pos z]; rfl
  · exact absurd h (by decide)
theorem place_stay {r g b sp lo mi hi : Int} (o : Ord r g b lo mi hi) (h : ¬ (mi - hi).fmod 3 = 2) : (2 * sp * hi + (pick r g b mi - pick r g b lo)).fmod (6 * sp) = placeOf r g b sp := by
  unfold placeOf
  rcases o with ⟨x, y, rfl, rfl, rfl⟩ | ⟨x, y, z, rfl, rfl, rfl⟩ | ⟨x, y, z, rfl, rfl, rfl⟩ | ⟨x, y, rfl, rfl, rfl⟩ | ⟨x, y, z, rfl, rfl, rfl⟩ | ⟨x, y, z, rfl, rfl, rfl⟩
  · exact absurd (show (_ : Int) = _ by decide) h
  · rw [if_pos x, if_neg y, if_pos z]; rfl
  · exact absurd (show (_ : Int) = _ by decide) h
  · rw [if_neg x, if_pos y]; rfl
  · exact absurd (show (_ : Int) = _ by decide) h
  · rw [if_neg x, if_neg y, if_neg z]; rfl
noncomputable def JPMark : Prop := True
structure JP (r g b sp : Int) (ts : Tok) (L1 : Addr) (oc0 : Obj) (p : Addr) (op : Obj) (c0 : Addr) (ocz : Obj) (h₀ : Heap) (L : Addr) (s : Shared) (f : Flow) (s' : Shared) : Prop where
  next : f = .next
  out : ∃ (lo mi hi : Int) (t1 t2 t3 : Tok) (ps : Array Value) (c : Addr) (oc : Obj) (h : Heap) (tk : Nat), Ord r g b lo mi hi ∧ s' = { s with heap := h, toks := tk } ∧
    Fr h₀ L h (fun y => if y = Str.ofString "high" then some (.int hi t3) else if y = Str.ofString "middle" then some (.int mi t2) else if y = Str.ofString "low" then some (.int lo t1) else if y = Str.ofString "spread" then some (.int sp ts) else none) ∧
    News h₀ L h [(L1, oc0), (p, op), (77, tabObj ps), (c, oc), (c0, ocz)] ∧ TabOk lamPos lamQual ps c oc ∧ (c = c0 ∨ @LT.lt Nat _ L1 c)
theorem JP.intro {r g b sp : Int} {ts : Tok} {L1 : Addr} {oc0 : Obj} {p : Addr} {op : Obj} {c0 : Addr} {ocz : Obj} {h₀ : Heap} {L : Addr} {s : Shared} {lo mi hi : Int} {t1 t2 t3 : Tok} {ps : Array Value} {c : Addr} {oc : Obj} {h : Heap} {tk : Nat} {all pre : List (Addr × Obj)}
    (o : Ord r g b lo mi hi) (F : Fr h₀ L h (fun y => if y = Str.ofString "high" then some (.int hi t3) else if y = Str.ofString "middle" then some (.int mi t2) else if y = Str.ofString "low" then some (.int lo t1) else if y = Str.ofString "spread" then some (.int sp ts) else none))
    (N : News h₀ L h all) (tb : TabOk lamPos lamQual ps c oc) (i0 : (L1, oc0) ∈ all) (i1 : (p, op) ∈ all) (i2 : (77, tabObj ps) ∈ all) (i3 : (c, oc) ∈ all) (i4 : (c0, ocz) ∈ all) (hn : c = c0 ∨ ∀ q ∈ pre, q.1 < c) (hm : (L1, oc0) ∈ pre) :
    JP r g b sp ts L1 oc0 p op c0 ocz h₀ L s .next { s with heap := h, toks := tk } :=
  ⟨rfl, lo, mi, hi, t1, t2, t3, ps, c, oc, h, tk, o, rfl, F, fun q hq => N q (by
    simp only [List.mem_cons, List.not_mem_nil, or_false] at hq
    rcases hq with rfl | rfl | rfl | rfl | rfl <;> assumption), tb, hn.imp id fun k => k _ hm⟩
section
variable {prog : Program} {w : World} {M : Model} {A : Around} {E : Value → Shared → Prop} {s : Shared} {env : Env} {h₀ : Heap} {L : Addr}
theorem joinP {r g b sp : Int} {ts : Tok} {L1 : Addr} {oc0 : Obj} {p : Addr} {op : Obj} {c0 : Addr} {ocz : Obj} {st : Stmt} {Q : Flow → Shared → Prop} {m : Str → Option Value} (_F : Fr h₀ L s.heap m)
    (hc : JPMark → wpAny M A (exec st env) (fun f s' => JP r g b sp ts L1 oc0 p op c0 ocz h₀ L s f s') E s)
    (hk : KJoinB2 (∀ (lo mi hi : Int) (t1 t2 t3 : Tok) (ps : Array Value) (c : Addr) (oc : Obj) (h : Heap) (tk : Nat), Ord r g b lo mi hi → In3 lo → In3 mi → In3 hi →
      Fr h₀ L h (fun y => if y = Str.ofString "high" then some (.int hi t3) else if y = Str.ofString "middle" then some (.int mi t2) else if y = Str.ofString "low" then some (.int lo t1) else if y = Str.ofString "spread" then some (.int sp ts) else none) →
      News h₀ L h [(L1, oc0), (p, op), (77, tabObj ps), (c, oc), (c0, ocz)] → TabOk lamPos lamQual ps c oc → (c = c0 ∨ @LT.lt Nat _ L1 c) → Q .next { s with heap := h, toks := tk })) :
    wpAny M A (exec st env) Q E s := by
  refine wpAny_mono (hc trivial) (fun f s' h => ?_) fun _ _ h => h
  obtain ⟨rfl, lo, mi, hi, t1, t2, t3, ps, c, oc, h, tk, o, rfl, F, N, tb, hn⟩ := h
  exact hk lo mi hi t1 t2 t3 ps c oc h tk o o.in3.1 o.in3.2.1 o.in3.2.2 F N tb hn
theorem sub3 {value slice : Expr} {l : Addr} {r g b k : Int} {tr tg tb u : Tok} {news : List (Addr × Obj)} {Q : Value → Shared → Prop} (N : News h₀ L s.heap news) (hm : (l, tup [.int r tr, .int g tg, .int b tb]) ∈ news) (hk : In3 k)
    (h : ∀ t, Q (.int (pick r g b k) t) s)
    (hs : subscripted slice false (.ref l) (.int k u) = operate [.ref l, .int k u] (getItem (.ref l) (.int k u)) := by with_unfolding_all rfl) :
    wpAny (model prog w) A (subscriptTail value slice (.ref l) (.int k u)) Q E s := by
  have ht := News.isTup N hm
  rcases hk with rfl | rfl | rfl
  · exact item_tupleT ht (by decide) (by decide) (by rfl) (by rfl) (h tr) hs
  · exact item_tupleT ht (by decide) (by decide) (by rfl) (by rfl) (h tg) hs
  · exact item_tupleT ht (by decide) (by decide) (by rfl) (by rfl) (h tb) hs
end
theorem fresh_of {c1 c0 L' : Addr} {n : Nat} (h : c1 = c0 ∨ @LT.lt Nat _ (L' + 1) c1) (hL : @LE.le Nat _ n L') : c1 = c0 ∨ @LE.le Nat _ n c1 :=
  h.imp id fun k => Nat.le_trans hL (Nat.le_of_lt (Nat.lt_of_succ_lt k))
end
end
section
open PySem PySem.W PyProof.Rows PySem.Flt
section
section
variable {prog : Program} {w : World} {A : Around} {E : Value → Shared → Prop} {s : Shared} {Q : Value → Shared → Prop}
noncomputable def vmax3 (a b c : Value) : Value := if ltV a b = true then (if ltV b c = true then c else b) else (if ltV a c = true then c else a)
noncomputable def vmin3 (a b c : Value) : Value := if ltV b a = true then (if ltV c b = true then c else b) else (if ltV c a = true then c else a)
theorem max_tup {a b c : Value} {l : Addr} {h₀ : Heap} {L : Addr} {m : Str → Option Value} {news : List (Addr × Obj)} (hh : A.handled = none) (F : Fr h₀ L s.heap m) (N : News h₀ L s.heap news)
    (ha : NumV a) (hb : NumV b) (hc : NumV c) (hT : s.heap.IsTuple l #[a, b, c])
    (h : ∀ h' tk, Fr h₀ L h' m → News h₀ L h' news → Q (vmax3 a b c) { s with heap := h', toks := tk }) :
    wpAny (model prog w) A (call (.builtin "max") [.ref l]) Q E s := by
  have hlt : l < s.heap.objs.size := by obtain ⟨o, e, _⟩ := hT; exact Heap.lt_size e
  refine call_max_walk (wpAny_pyIter_tuple hT ?_)
  refine ⟨_, [_, l], [_], _, _, _, _, rfl, Walks.tuple (A := A.in1) hh _ l (Nat.ne_of_lt hlt) #[a, b, c],
    ⟨⟨_, Heap.get?_push_size _ rfl, rfl, rfl⟩, hT.push _⟩, fun d hd => ?_, by simp, cmpOf_gt #[a, b, c] (by simp [ha, hb, hc]), fun v h' tk hP hk => ?_⟩
  · show d < (s.heap.push _).objs.size
    rw [Heap.size_push]
    rcases List.mem_cons.mp hd with rfl | hd
    · exact Nat.lt_succ_self _
    · rcases List.mem_cons.mp hd with rfl | hd
      · exact Nat.lt_succ_of_lt hlt
      · cases hd
  · have hold : ∀ c o, s.heap.get? c = some o → h'.get? c = some o := fun c o e => by
      refine hk c o (fun hm => ?_) (Heap.get?_push_of_some _ e)
      rcases List.mem_cons.mp hm with e1 | hm
      · have := Heap.lt_size e; rw [e1] at this; exact Nat.lt_irrefl _ this
      · cases hm
    have hv : v = vmax3 a b c := by
      unfold vmax3
      cases h1 : ltV a b
      · cases h2 : ltV a c
        · simpa [argBest, h1, h2] using hP.symm
        · simpa [argBest, h1, h2] using hP.symm
      · cases h2 : ltV b c
        · simpa [argBest, h1, h2] using hP.symm
        · simpa [argBest, h1, h2] using hP.symm
    subst hv
    exact h h' tk (F.grownK hold) (N.grown hold)
theorem min_tup {a b c : Value} {l : Addr} {h₀ : Heap} {L : Addr} {m : Str → Option Value} {news : List (Addr × Obj)} (hh : A.handled = none) (F : Fr h₀ L s.heap m) (N : News h₀ L s.heap news)
    (ha : NumV a) (hb : NumV b) (hc : NumV c) (hT : s.heap.IsTuple l #[a, b, c])
    (h : ∀ h' tk, Fr h₀ L h' m → News h₀ L h' news → Q (vmin3 a b c) { s with heap := h', toks := tk }) :
    wpAny (model prog w) A (call (.builtin "min") [.ref l]) Q E s := by
  have hlt : l < s.heap.objs.size := by obtain ⟨o, e, _⟩ := hT; exact Heap.lt_size e
  refine call_min_walk (wpAny_pyIter_tuple hT ?_)
  refine ⟨_, [_, l], [_], _, _, _, _, rfl, Walks.tuple (A := A.in1) hh _ l (Nat.ne_of_lt hlt) #[a, b, c],
    ⟨⟨_, Heap.get?_push_size _ rfl, rfl, rfl⟩, hT.push _⟩, fun d hd => ?_, by simp, cmpOf_lt #[a, b, c] (by simp [ha, hb, hc]), fun v h' tk hP hk => ?_⟩
  · show d < (s.heap.push _).objs.size
    rw [Heap.size_push]
    rcases List.mem_cons.mp hd with rfl | hd
    · exact Nat.lt_succ_self _
    · rcases List.mem_cons.mp hd with rfl | hd
      · exact Nat.lt_succ_of_lt hlt
      · cases hd
  · have hold : ∀ c o, s.heap.get? c = some o → h'.get? c = some o := fun c o e => by
      refine hk c o (fun hm => ?_) (Heap.get?_push_of_some _ e)
      rcases List.mem_cons.mp hm with e1 | hm
      · have := Heap.lt_size e; rw [e1] at this; exact Nat.lt_irrefl _ this
      · cases hm
    have hv : v = vmin3 a b c := by
      unfold vmin3
      cases h1 : ltV b a
      · cases h2 : ltV c a
        · simpa [argBest, h1, h2] using hP.symm
        · simpa [argBest, h1, h2] using hP.symm
      · cases h2 : ltV c b
        · simpa [argBest, h1, h2] using hP.symm
        · simpa [argBest, h1, h2] using hP.symm
    subst hv
    exact h h' tk (F.grownK hold) (N.grown hold)
theorem vmax3_int {a b c : Int} {t u x : Tok} : ∃ k, vmax3 (.int a t) (.int b u) (.int c x) = .int (max (max a b) c) k := by
  unfold vmax3 ltV
  by_cases h1 : a < b <;> by_cases h2 : b < c <;> by_cases h3 : a < c <;> simp only [h1, h2, h3, decide_true, decide_false, if_true, if_false, Bool.false_eq_true] <;> refine ⟨_, congrArg (fun z => Value.int z _) ?_⟩ <;> omega
theorem vmin3_int {a b c : Int} {t u x : Tok} : ∃ k, vmin3 (.int a t) (.int b u) (.int c x) = .int (min (min a b) c) k := by
  unfold vmin3 ltV
  by_cases h1 : b < a <;> by_cases h2 : c < b <;> by_cases h3 : c < a <;> simp only [h1, h2, h3, decide_true, decide_false, if_true, if_false, Bool.false_eq_true] <;> refine ⟨_, congrArg (fun z => Value.int z _) ?_⟩ <;> omega
theorem vmax3_float {a b c : UInt64} {t u x : Tok} : ∃ k, vmax3 (.float a t) (.float b u) (.float c x) = .float (fmax3 a b c) k := by
  unfold vmax3 ltV fmax3 fmax2
  by_cases h1 : (Float64.cmp a b == some .lt) = true
  · rw [if_pos h1, if_pos h1]
    by_cases h2 : (Float64.cmp b c == some .lt) = true
    · rw [if_pos h2, if_pos h2]; exact ⟨_, rfl⟩
    · rw [if_neg h2, if_neg h2]; exact ⟨_, rfl⟩
  · rw [if_neg h1, if_neg h1]
    by_cases h2 : (Float64.cmp a c == some .lt) = true
    · rw [if_pos h2, if_pos h2]; exact ⟨_, rfl⟩
    · rw [if_neg h2, if_neg h2]; exact ⟨_, rfl⟩
theorem max_tup_i {a b c : Int} {t u x : Tok} {l : Addr} {h₀ : Heap} {L : Addr} {m : Str → Option Value} {news : List (Addr × Obj)} (hh : A.handled = none) (F : Fr h₀ L s.heap m) (N : News h₀ L s.heap news)
    (hm : (l, ({ cls := .type "tuple", data := .seq #[.int a t, .int b u, .int c x] } : Obj)) ∈ news)
    (h : ∀ h' tk k, Fr h₀ L h' m → News h₀ L h' news → Q (.int (max (max a b) c) k) { s with heap := h', toks := tk }) :
    wpAny (model prog w) A (call (.builtin "max") [.ref l]) Q E s :=
  max_tup hh F N (.int _ _) (.int _ _) (.int _ _) ⟨_, (N _ hm).1, rfl, 0, rfl⟩ fun h' tk F' N' => by
    obtain ⟨k, e⟩ := @vmax3_int a b c t u x
    rw [e]; exact h h' tk k F' N'
theorem min_tup_i {a b c : Int} {t u x : Tok} {l : Addr} {h₀ : Heap} {L : Addr} {m : Str → Option Value} {news : List (Addr × Obj)} (hh : A.handled = none) (F : Fr h₀ L s.heap m) (N : News h₀ L s.heap news)
    (hm : (l, ({ cls := .type "tuple", data := .seq #[.int a t, .int b u, .int c x] } : Obj)) ∈ news)
    (h : ∀ h' tk k, Fr h₀ L h' m → News h₀ L h' news → Q (.int (min (min a b) c) k) { s with heap := h', toks := tk }) :
    wpAny (model prog w) A (call (.builtin "min") [.ref l]) Q E s :=
  min_tup hh F N (.int _ _) (.int _ _) (.int _ _) ⟨_, (N _ hm).1, rfl, 0, rfl⟩ fun h' tk F' N' => by
    obtain ⟨k, e⟩ := @vmin3_int a b c t u x
    rw [e]; exact h h' tk k F' N'
theorem max_tup_f {a b c : UInt64} {t u x : Tok} {l : Addr} {h₀ : Heap} {L : Addr} {m : Str → Option Value} {news : List (Addr × Obj)} (hh : A.handled = none) (F : Fr h₀ L s.heap m) (N : News h₀ L s.heap news)
    (hm : (l, ({ cls := .type "tuple", data := .seq #[.float a t, .float b u, .float c x] } : Obj)) ∈ news)
    (h : ∀ h' tk k, Fr h₀ L h' m → News h₀ L h' news → Q (.float (fmax3 a b c) k) { s with heap := h', toks := tk }) :
    wpAny (model prog w) A (call (.builtin "max") [.ref l]) Q E s :=
  max_tup hh F N (.float _ _) (.float _ _) (.float _ _) ⟨_, (N _ hm).1, rfl, 0, rfl⟩ fun h' tk F' N' => by
    obtain ⟨k, e⟩ := @vmax3_float a b c t u x
    rw [e]; exact h h' tk k F' N'
end
end
end
section
open PySem PySem.W PyProof.Rows
set_option maxRecDepth 100000
section
set_option maxHeartbeats 8000000 in
theorem yiq_ok {w : World} {mean : ExcName → Option Value} {mg mb : Str → Option Value} (r g b : UInt64) (tr tg tb : Tok) :
   Con 1 w mean mg mb 21 [.float r tr, .float g tg, .float b tb] (RetT (yiqY r g b) (yiqI r g b) (yiqQ r g b)) := by
  k_with_none
  k_with "call builtin:max" => ((with_reducible show wpAny _ _ (call _ [Value.float _ _, Value.float _ _, Value.float _ _]) _ _ _); (rename News _ _ _ _ => N'); (rename Fr _ _ _ _ => F'); refine max_three_n (by assumption) (by assumption) (by assumption) rfl F' N' ?_; clear N'; intro _ _ _ _ _ _)
  k_with "call builtin:min" => ((with_reducible show wpAny _ _ (call _ [Value.float _ _, Value.float _ _, Value.float _ _]) _ _ _); (rename News _ _ _ _ => N'); (rename Fr _ _ _ _ => F'); refine min_three_n (by assumption) (by assumption) (by assumption) rfl F' N' ?_; clear N'; intro _ _ _ _ _ _)
  k_with "k_room" => ktr_room
  k_with "execs cons" => (k_here; (with_reducible show wpAny _ _ _ _ _ (Shared.mk _ _ _ (HAdd.hAdd _ 1) _)); refine genTokP ?_; intro tk' ntk')
  k_with "execs nil" => (k_here; (with_reducible show wpAny _ _ _ _ _ (Shared.mk _ _ _ (HAdd.hAdd _ 1) _)); refine genTokP ?_; intro tk' ntk')
  intro dp un gd cn cs a ccd cl outer A₀ base h₀ L m s Q E news B' F' X' N' T' hk hd hu hret
  w_on
  revert X'; k_fill; intro X'
  refine wpAny_call ?_
  k_dflt cell_enter
  rename Fr _ _ _ _ => F'
  replace F' := (show Fr _ _ _ (fun z => List.lookup z [(Str.ofString "b", Value.float b tb), (Str.ofString "g", Value.float g tg), (Str.ofString "r", Value.float r tr)]) from F')
  k_steps
  all_goals first
    | (refine' retT_use hret (by assumption) (by assumption) (by assumption) _ _ _; all_goals (first | rfl | (simp only [yiqY, yiqI, yiqQ, *, if_true, if_false, Bool.false_eq_true, Int.reduceEq]; done) | (simp only [yiqY, yiqI, yiqQ, *, if_true, if_false, Bool.false_eq_true, Int.reduceEq] ; rfl)))
end
end
section
set_option maxRecDepth 100000
section
open PySem PySem.W PySem.Calls PyProof.Rows
structure KJoinFl (x : Str) (v : UInt64) (h₀ : Heap) (L : Addr) (m : Str → Option Value) (news : List (Addr × Obj)) (s : Shared) (f : Flow) (s' : Shared) : Prop where
  next : f = .next
  here : ∃ t : Tok, KJoinAt h₀ L (fun y => if y = x then some (.float v t) else m y) news s s'
noncomputable abbrev KJoinB3 (P : Prop) : Prop := P
section
variable {M : Model} {A : Around} {E : Value → Shared → Prop} {s : Shared} {env : Env} {h₀ : Heap} {L : Addr} {m : Str → Option Value} {news : List (Addr × Obj)}
/-- a plain if that stores one float: one path -/
theorem kjf_if {test : Expr} {x : Str} {p q pos : Pos} {e : Expr} {c : Bool} {a v : UInt64} {t₀ : Tok} {Q : Flow → Shared → Prop} (_F : Fr h₀ L s.heap m) (_N : News h₀ L s.heap news)
    (hold : m x = some (.float a t₀))
    (hc : wpAny M A (isTrue test env (eval test env)) (fun k s₂ => KJoinC c h₀ L m news s k s₂) E s)
    (hv : KJoinB1 (c = true → ∀ s₂, KJoinAt h₀ L m news s s₂ → wpAny M A (exec (.Assign [.Name x p] e q) env) (fun f s₃ => KJoinFl x v h₀ L m news s f s₃) E s₂))
    (hk : KJoinB2 (∀ (r : UInt64) (t : Tok) (s₃ : Shared), r = (if c = true then v else a) → KJoinAt h₀ L (fun y => if y = x then some (.float r t) else m y) news s s₃ → Q .next s₃)) :
    wpAny M A (exec (.If test [.Assign [.Name x p] e q] [] pos) env) Q E s := by
  refine wpAny_If (wpAny_mono hc (fun k s₂ hkc => ?_) fun _ _ h => h)
  obtain ⟨hkc, hat⟩ := hkc
  subst hkc
  cases k with
  | true =>
    show wpAny M A (execs [.Assign [.Name x p] e q] env) Q E s₂
    refine wpAny_execs_cons (wpAny_mono (hv rfl s₂ hat) (fun f s₃ hf => ?_) fun _ _ h => h)
    obtain ⟨hf, t, ht⟩ := hf
    subst hf
    exact wpAny_execs_nil (hk v t s₃ (if_pos rfl).symm ht)
  | false =>
    show wpAny M A (execs [] env) Q E s₂
    refine wpAny_execs_nil (hk a t₀ s₂ (if_neg Bool.false_ne_true).symm ?_)
    have e : (fun y => if y = x then some (Value.float a t₀) else m y) = m := by
      funext y
      by_cases hy : y = x
      · rw [if_pos hy, hy, hold]
      · rw [if_neg hy]
    rw [e]
    exact hat
end
noncomputable def JVMark : Prop := True
structure JV (x : Str) (v : UInt64) (h₀ : Heap) (L : Addr) (m : Str → Option Value) (news : List (Addr × Obj)) (s : Shared) (f : Flow) (s' : Shared) : Prop where
  next : f = .next
  out : ∃ (t : Tok) (h : Heap) (tk : Nat), t ≠ 0 ∧ s' = { s with heap := h, toks := tk } ∧ Fr h₀ L h (fun y => if y = x then some (.float v t) else m y) ∧ News h₀ L h news
theorem JV.intro {x : Str} {v v' : UInt64} {h₀ : Heap} {L : Addr} {m : Str → Option Value} {news : List (Addr × Obj)} {s : Shared} {t : Tok} {h : Heap} {tk : Nat} (F : Fr h₀ L h (fun y => if y = x then some (.float v' t) else m y)) (N : News h₀ L h news) (n : t ≠ 0) (e : v' = v) :
    JV x v h₀ L m news s .next { s with heap := h, toks := tk } := ⟨rfl, t, h, tk, n, rfl, e ▸ F, N⟩
/-- a statement whose ways all store the one float: one path -/
theorem joinV {M : Model} {A : Around} {E : Value → Shared → Prop} {s : Shared} {env : Env} {h₀ : Heap} {L : Addr} {m : Str → Option Value} {news : List (Addr × Obj)} {st : Stmt} {Q : Flow → Shared → Prop} (x : Str) (v : UInt64) (_F : Fr h₀ L s.heap m) (_N : News h₀ L s.heap news)
    (hc : JVMark → wpAny M A (exec st env) (fun f s' => JV x v h₀ L m news s f s') E s)
    (hk : KJoinB2 (∀ (t : Tok) (h : Heap) (tk : Nat), t ≠ 0 → Fr h₀ L h (fun y => if y = x then some (.float v t) else m y) → News h₀ L h news → Q .next { s with heap := h, toks := tk })) :
    wpAny M A (exec st env) Q E s := by
  refine wpAny_mono (hc trivial) (fun f s' h => ?_) fun _ _ h => h
  obtain ⟨rfl, t, h, tk, n, rfl, F, N⟩ := h
  exact hk t h tk n F N
structure JoinM (h₀ : Heap) (L : Addr) (m : Str → Option Value) (news : List (Addr × Obj)) (s : Shared) (v : Value) (s' : Shared) : Prop where
  val : ∃ (x : Int) (t : Tok), v = .int (x.fmod 256) t
  here : KJoinAt h₀ L m news s s'
/-- a conditional expression both of whose sides give a remainder by 256: one path -/
theorem joinM {M : Model} {A : Around} {E : Value → Shared → Prop} {s : Shared} {env : Env} {h₀ : Heap} {L : Addr} {m : Str → Option Value} {news : List (Addr × Obj)} {test b c : Expr} {pos : Pos} {Q : Value → Shared → Prop} (_F : Fr h₀ L s.heap m) (_N : News h₀ L s.heap news)
    (hc : wpAny M A (isTrue test env (eval test env)) (fun k s₂ => if k = true then wpAny M A (eval b env) (fun v s₃ => JoinM h₀ L m news s v s₃) E s₂ else wpAny M A (eval c env) (fun v s₃ => JoinM h₀ L m news s v s₃) E s₂) E s)
    (hk : KJoinB2 (∀ (x : Int) (t : Tok) (s₃ : Shared), KJoinAt h₀ L m news s s₃ → Q (.int (x.fmod 256) t) s₃)) :
    wpAny M A (eval (.IfExp test b c pos) env) Q E s := by
  refine wpAny_mono (IfExp_ hc) (fun v s₃ h => ?_) fun _ _ h => h
  obtain ⟨⟨x, t, rfl⟩, h2⟩ := h
  exact hk x t s₃ h2
noncomputable def satL2 (r g b : UInt64) : UInt64 :=
  if fle (light r g b) cHalf = true then Float64.div (rg r g b) (Float64.add (fmax3 r g b) (fmin3 r g b))
  else Float64.div (rg r g b) (Float64.sub (Float64.sub c2 (fmax3 r g b)) (fmin3 r g b))
theorem clamp2 {x r s : UInt64} (h2 : s = if (Float64.cmp r 4607182418800017408 == some .gt) = true then 4607182418800017408 else r) (h1 : r = if (Float64.cmp x 0 == some .lt) = true then 0 else x) : s = clampF x := by
  subst h2 h1
  unfold clampF flt fgt
  by_cases h : (Float64.cmp x 0 == some .lt) = true
  · rw [if_pos h, if_pos h, if_neg (by decide +kernel)]
  · rw [if_neg h, if_neg h]
end
end
section
open PySem PySem.W PyProof.Rows
set_option maxRecDepth 100000
section
set_option maxHeartbeats 8000000 in
theorem yr_ok {w : World} {mean : ExcName → Option Value} {mg mb : Str → Option Value} (y i q : UInt64) (tr tg tb : Tok) :
   Con 1 w mean mg mb 28 [.float y tr, .float i tg, .float q tb] (RetT (yR y i q) (yG y i q) (yB y i q)) := by
  k_with_none
  k_with "call builtin:max" => ((with_reducible show wpAny _ _ (call _ [Value.float _ _, Value.float _ _, Value.float _ _]) _ _ _); (rename News _ _ _ _ => N'); (rename Fr _ _ _ _ => F'); refine max_three_n (by assumption) (by assumption) (by assumption) rfl F' N' ?_; clear N'; intro _ _ _ _ _ _)
  k_with "call builtin:min" => ((with_reducible show wpAny _ _ (call _ [Value.float _ _, Value.float _ _, Value.float _ _]) _ _ _); (rename News _ _ _ _ => N'); (rename Fr _ _ _ _ => F'); refine min_three_n (by assumption) (by assumption) (by assumption) rfl F' N' ?_; clear N'; intro _ _ _ _ _ _)
  k_with "k_room" => ktr_room
  k_with "execs cons" => (k_here; (with_reducible show wpAny _ _ _ _ _ (Shared.mk _ _ _ (HAdd.hAdd _ 1) _)); refine genTokP ?_; intro tk' ntk')
  k_with "execs nil" => (k_here; (with_reducible show wpAny _ _ _ _ _ (Shared.mk _ _ _ (HAdd.hAdd _ 1) _)); refine genTokP ?_; intro tk' ntk')
  k_with "exec If" => (k_here; (rename Fr _ _ _ _ => F'); (rename News _ _ _ _ => N'); apply kjf_if F' N'; (case hold => with_unfolding_all rfl))
  k_with "KJoinFl" => exact ⟨rfl, _, ⟨⟨_, _, rfl, by assumption, by assumption⟩⟩⟩
  k_with "KJoinB2" => ((show ∀ _ _ _, _ → _ → _); intro r' t' s' hr' hJ'; obtain ⟨h', tk', e', F'', N''⟩ := KJoinAt.at_ hJ'; subst e')
  intro dp un gd cn cs a ccd cl outer A₀ base h₀ L m s Q E news B' F' X' N' T' hk hd hu hret
  w_on
  revert X'; k_fill; intro X'
  refine wpAny_call ?_
  k_dflt cell_enter
  rename Fr _ _ _ _ => F'
  replace F' := (show Fr _ _ _ (fun z => List.lookup z [(Str.ofString "q", Value.float q tb), (Str.ofString "i", Value.float i tg), (Str.ofString "y", Value.float y tr)]) from F')
  k_steps
  all_goals (refine' retT_use hret (by assumption) (by assumption) (by assumption) _ _ _ <;> exact clamp2 (by assumption) (by assumption))
end
end
section
open PySem PySem.W PyProof.Rows
set_option maxRecDepth 100000
section
set_option maxHeartbeats 8000000 in
theorem hsv_ok {w : World} {mean : ExcName → Option Value} {mg mb : Str → Option Value} (r g b : UInt64) (tr tg tb : Tok) (ntr : tr ≠ 0) (ntg : tg ≠ 0) (ntb : tb ≠ 0) (hz : grey r g b = false → ¬ Float64.isZero (fmax3 r g b) = true ∧ ¬ Float64.isZero (rg r g b) = true) :
   Con 1 w mean mg mb 56 [.float r tr, .float g tg, .float b tb] (RetTN (hueOf r g b) (satV r g b) (fmax3 r g b)) := by
  k_with_none
  k_with "call builtin:max" => ((with_reducible show wpAny _ _ (call _ [Value.float _ _, Value.float _ _, Value.float _ _]) _ _ _); (rename News _ _ _ _ => N'); (rename Fr _ _ _ _ => F'); refine max_three_n (by assumption) (by assumption) (by assumption) rfl F' N' ?_; clear N'; intro _ _ _ _ _ _)
  k_with "call builtin:min" => ((with_reducible show wpAny _ _ (call _ [Value.float _ _, Value.float _ _, Value.float _ _]) _ _ _); (rename News _ _ _ _ => N'); (rename Fr _ _ _ _ => F'); refine min_three_n (by assumption) (by assumption) (by assumption) rfl F' N' ?_; clear N'; intro _ _ _ _ _ _)
  k_with "k_room" => ktr_room
  k_with "execs cons" => (k_here; (with_reducible show wpAny _ _ _ _ _ (Shared.mk _ _ _ (HAdd.hAdd _ 1) _)); refine genTokP ?_; intro tk' ntk')
  k_with "execs nil" => (k_here; (with_reducible show wpAny _ _ _ _ _ (Shared.mk _ _ _ (HAdd.hAdd _ 1) _)); refine genTokP ?_; intro tk' ntk')
  k_with "exec If" => (k_here; (with_reducible show wpAny _ _ (exec (Stmt.If _ [Stmt.Assign [Expr.Name (Str.ofString "h") _] _ _] _ _) _) _ _ _); (fail_if_success (rename JVMark => hM)); (rename Fr _ _ _ _ => F9); (rename News _ _ _ _ => N9); refine joinV (Str.ofString "h") (hue6 r g b) F9 N9 (fun hM => ?_) ?_)
  k_with "JV" => (k_dflt (refine' JV.intro (by assumption) (by assumption) (by first | assumption | exact Nat.succ_ne_zero _) _); first | rfl | (simp only [satL2, light, fle, grey, feq, hue6, cc, rg, *, if_true, if_false, Bool.false_eq_true]; done) | (simp only [satL2, light, fle, grey, feq, hue6, cc, rg, *, if_true, if_false, Bool.false_eq_true]; rfl))
  k_with "KJoinB2" => ((show ∀ _ _ _, _); intro t9 h9 tk9 n9 F9 N9; (try k_sweep))
  k_with "execs cons" => (k_here; (rename News _ _ _ _ => N9); dsimp only at N9; walk_at "execs cons")
  k_with "execs cons" => (k_here; (rename Fr _ _ _ _ => F9); dsimp only at F9; walk_at "execs cons")
  intro dp un gd cn cs a ccd cl outer A₀ base h₀ L m s Q E news B' F' X' N' T' hk hd hu hret
  w_on
  revert X'; k_fill; intro X'
  refine wpAny_call ?_
  k_dflt cell_enter
  rename Fr _ _ _ _ => F'
  replace F' := (show Fr _ _ _ (fun z => List.lookup z [(Str.ofString "b", Value.float b tb), (Str.ofString "g", Value.float g tg), (Str.ofString "r", Value.float r tr)]) from F')
  k_steps
  all_goals first
    | (refine' retTN_use hret (by assumption) (by assumption) (by assumption) (by first | assumption | exact Nat.succ_ne_zero _) (by first | assumption | exact Nat.succ_ne_zero _) (by first | assumption | exact Nat.succ_ne_zero _)  _ _ _; all_goals (first | rfl | (simp only [hueOf, satV, grey, feq, cc, rg, *, if_true, if_false, Bool.false_eq_true, Int.reduceEq]; done) | (simp only [hueOf, satV, grey, feq, cc, rg, *, if_true, if_false, Bool.false_eq_true, Int.reduceEq] ; rfl)))
    | (exfalso; exact (hz (by assumption)).1 (by assumption))
    | (exfalso; exact (hz (by assumption)).2 (by assumption))
end
end
section
open PySem PySem.W PyProof.Rows
set_option maxRecDepth 100000
section
set_option maxHeartbeats 8000000 in
theorem hls_ok {w : World} {mean : ExcName → Option Value} {mg mb : Str → Option Value} (r g b : UInt64) (tr tg tb : Tok) (ntr : tr ≠ 0) (ntg : tg ≠ 0) (ntb : tb ≠ 0) (hz : grey r g b = false → ¬ Float64.isZero (rg r g b) = true ∧ (fle (light r g b) cHalf = true → ¬ Float64.isZero (Float64.add (fmax3 r g b) (fmin3 r g b)) = true) ∧ (fle (light r g b) cHalf = false → ¬ Float64.isZero (Float64.sub (Float64.sub c2 (fmax3 r g b)) (fmin3 r g b)) = true)) :
   Con 1 w mean mg mb 35 [.float r tr, .float g tg, .float b tb] (RetTN (hueOf r g b) (light r g b) (satL r g b)) := by
  k_with_none
  k_with "call builtin:max" => ((with_reducible show wpAny _ _ (call _ [Value.float _ _, Value.float _ _, Value.float _ _]) _ _ _); (rename News _ _ _ _ => N'); (rename Fr _ _ _ _ => F'); refine max_three_n (by assumption) (by assumption) (by assumption) rfl F' N' ?_; clear N'; intro _ _ _ _ _ _)
  k_with "call builtin:min" => ((with_reducible show wpAny _ _ (call _ [Value.float _ _, Value.float _ _, Value.float _ _]) _ _ _); (rename News _ _ _ _ => N'); (rename Fr _ _ _ _ => F'); refine min_three_n (by assumption) (by assumption) (by assumption) rfl F' N' ?_; clear N'; intro _ _ _ _ _ _)
  k_with "k_room" => ktr_room
  k_with "execs cons" => (k_here; (with_reducible show wpAny _ _ _ _ _ (Shared.mk _ _ _ (HAdd.hAdd _ 1) _)); refine genTokP ?_; intro tk' ntk')
  k_with "execs nil" => (k_here; (with_reducible show wpAny _ _ _ _ _ (Shared.mk _ _ _ (HAdd.hAdd _ 1) _)); refine genTokP ?_; intro tk' ntk')
  k_with "exec If" => (k_here; (with_reducible show wpAny _ _ (exec (Stmt.If _ [Stmt.Assign [Expr.Name (Str.ofString "s") _] _ _] _ _) _) _ _ _); (fail_if_success (rename JVMark => hM)); (rename Fr _ _ _ _ => F9); (rename News _ _ _ _ => N9); refine joinV (Str.ofString "s") (satL2 r g b) F9 N9 (fun hM => ?_) ?_)
  k_with "exec If" => (k_here; (with_reducible show wpAny _ _ (exec (Stmt.If _ [Stmt.Assign [Expr.Name (Str.ofString "h") _] _ _] _ _) _) _ _ _); (fail_if_success (rename JVMark => hM)); (rename Fr _ _ _ _ => F9); (rename News _ _ _ _ => N9); refine joinV (Str.ofString "h") (hue6 r g b) F9 N9 (fun hM => ?_) ?_)
  k_with "JV" => (k_dflt (refine' JV.intro (by assumption) (by assumption) (by first | assumption | exact Nat.succ_ne_zero _) _); first | rfl | (simp only [satL2, light, fle, grey, feq, hue6, cc, rg, *, if_true, if_false, Bool.false_eq_true]; done) | (simp only [satL2, light, fle, grey, feq, hue6, cc, rg, *, if_true, if_false, Bool.false_eq_true]; rfl))
  k_with "KJoinB2" => ((show ∀ _ _ _, _); intro t9 h9 tk9 n9 F9 N9; (try k_sweep))
  k_with "execs cons" => (k_here; (rename News _ _ _ _ => N9); dsimp only at N9; walk_at "execs cons")
  k_with "execs cons" => (k_here; (rename Fr _ _ _ _ => F9); dsimp only at F9; walk_at "execs cons")
  intro dp un gd cn cs a ccd cl outer A₀ base h₀ L m s Q E news B' F' X' N' T' hk hd hu hret
  w_on
  revert X'; k_fill; intro X'
  refine wpAny_call ?_
  k_dflt cell_enter
  rename Fr _ _ _ _ => F'
  replace F' := (show Fr _ _ _ (fun z => List.lookup z [(Str.ofString "b", Value.float b tb), (Str.ofString "g", Value.float g tg), (Str.ofString "r", Value.float r tr)]) from F')
  k_steps
  all_goals first
    | (refine' retTN_use hret (by assumption) (by assumption) (by assumption) (by first | assumption | exact Nat.succ_ne_zero _) (by first | assumption | exact Nat.succ_ne_zero _) (by first | assumption | exact Nat.succ_ne_zero _)  _ _ _; all_goals (first | rfl | (simp only [hueOf, satL, satL2, light, fle, grey, feq, cc, rg, *, if_true, if_false, Bool.false_eq_true, Int.reduceEq]; done) | (simp only [hueOf, satL, satL2, light, fle, grey, feq, cc, rg, *, if_true, if_false, Bool.false_eq_true, Int.reduceEq] ; rfl)))
    | (exfalso; exact (hz (by assumption)).1 (by assumption))
    | (exfalso; exact (hz (by assumption)).2.1 (by assumption) (by assumption))
    | (exfalso; exact (hz (by assumption)).2.2 (by assumption) (by assumption))
end
end
section
open PySem PySem.W PyProof.Rows
set_option maxRecDepth 100000
section
set_option maxHeartbeats 8000000 in
theorem hr_ok {w : World} {mean : ExcName → Option Value} {mg mb : Str → Option Value} (h sa v : UInt64) (th ts tv : Tok) (ntv : tv ≠ 0) (hz : feq sa 0 = false → Float64.isFinite (Float64.mul h c6) = true ∧ (sec h).natAbs < 2 ^ 1024 - 2 ^ 970) :
   Con 1 w mean mg mb 63 [.float h th, .float sa ts, .float v tv] (RetTN (hsvR h sa v) (hsvG h sa v) (hsvB h sa v)) := by
  k_with_none
  k_with "call builtin:max" => ((with_reducible show wpAny _ _ (call _ [Value.float _ _, Value.float _ _, Value.float _ _]) _ _ _); (rename News _ _ _ _ => N'); (rename Fr _ _ _ _ => F'); refine max_three_n (by assumption) (by assumption) (by assumption) rfl F' N' ?_; clear N'; intro _ _ _ _ _ _)
  k_with "call builtin:min" => ((with_reducible show wpAny _ _ (call _ [Value.float _ _, Value.float _ _, Value.float _ _]) _ _ _); (rename News _ _ _ _ => N'); (rename Fr _ _ _ _ => F'); refine min_three_n (by assumption) (by assumption) (by assumption) rfl F' N' ?_; clear N'; intro _ _ _ _ _ _)
  k_with "k_room" => ktr_room
  k_with "execs cons" => (k_here; (with_reducible show wpAny _ _ _ _ _ (Shared.mk _ _ _ (HAdd.hAdd _ 1) _)); refine genTokP ?_; intro tk' ntk')
  k_with "execs nil" => (k_here; (with_reducible show wpAny _ _ _ _ _ (Shared.mk _ _ _ (HAdd.hAdd _ 1) _)); refine genTokP ?_; intro tk' ntk')
  k_with "execs cons" => (k_here; (rename News _ _ _ _ => N9); dsimp only at N9; walk_at "execs cons")
  k_with "execs cons" => (k_here; (rename Fr _ _ _ _ => F9); dsimp only at F9; walk_at "execs cons")
  intro dp un gd cn cs a ccd cl outer A₀ base h₀ L m s Q E news B' F' X' N' T' hk hd hu hret
  w_on
  revert X'; k_fill; intro X'
  refine wpAny_call ?_
  k_dflt cell_enter
  rename Fr _ _ _ _ => F'
  replace F' := (show Fr _ _ _ (fun z => List.lookup z [(Str.ofString "v", Value.float v tv), (Str.ofString "s", Value.float sa ts), (Str.ofString "h", Value.float h th)]) from F')
  k_steps
  all_goals first
    | (refine' retTN_use hret (by assumption) (by assumption) (by assumption) (by first | assumption | exact Nat.succ_ne_zero _) (by first | assumption | exact Nat.succ_ne_zero _) (by first | assumption | exact Nat.succ_ne_zero _)  _ _ _; all_goals (first | rfl | (simp only [hsvR, hsvG, hsvB, feq, vP, vQ, vT, frc, sec, *, if_true, if_false, Bool.false_eq_true, Int.reduceEq]; done) | (simp only [hsvR, hsvG, hsvB, feq, vP, vQ, vT, frc, sec, *, if_true, if_false, Bool.false_eq_true, Int.reduceEq] ; rfl)))
    | (exfalso; exact not_nan_t (hz (by assumption)).1 (by assumption))
    | (exfalso; exact not_inf_t (hz (by assumption)).1 (by assumption))
    | (exfalso; exact Nat.not_le_of_lt (hz (by assumption)).2 (by assumption))
    | (exfalso; rcases fmod6 (Flt.toInt Float64.truncOf (Float64.mul h 4618441417868443648)) with h | h | h | h | h | h <;> contradiction)
end
end
section
open PySem PySem.W PyProof.Rows
set_option maxRecDepth 100000
section
set_option maxHeartbeats 8000000 in
theorem v_ok {w : World} {mean : ExcName → Option Value} {mg mb : Str → Option Value} (m1 m2 hue : UInt64) (th ts tv : Tok) (nth : th ≠ 0) (nts : ts ≠ 0) :
   Con 1 w mean mg mb 49 [.float m1 th, .float m2 ts, .float hue tv] (RetFN (fv6 m1 m2 hue)) := by
  k_with_none
  k_with "call builtin:max" => ((with_reducible show wpAny _ _ (call _ [Value.float _ _, Value.float _ _, Value.float _ _]) _ _ _); (rename News _ _ _ _ => N'); (rename Fr _ _ _ _ => F'); refine max_three_n (by assumption) (by assumption) (by assumption) rfl F' N' ?_; clear N'; intro _ _ _ _ _ _)
  k_with "call builtin:min" => ((with_reducible show wpAny _ _ (call _ [Value.float _ _, Value.float _ _, Value.float _ _]) _ _ _); (rename News _ _ _ _ => N'); (rename Fr _ _ _ _ => F'); refine min_three_n (by assumption) (by assumption) (by assumption) rfl F' N' ?_; clear N'; intro _ _ _ _ _ _)
  k_with "k_room" => ktr_room
  k_with "execs cons" => (k_here; (with_reducible show wpAny _ _ _ _ _ (Shared.mk _ _ _ (HAdd.hAdd _ 1) _)); refine genTokP ?_; intro tk' ntk')
  k_with "execs nil" => (k_here; (with_reducible show wpAny _ _ _ _ _ (Shared.mk _ _ _ (HAdd.hAdd _ 1) _)); refine genTokP ?_; intro tk' ntk')
  intro dp un gd cn cs a ccd cl outer A₀ base h₀ L m s Q E news B' F' X' N' T' hk hd hu hret
  w_on
  revert X'; k_fill; intro X'
  refine wpAny_call ?_
  k_dflt cell_enter
  k_steps
  all_goals first
    | (refine' retFN_use hret (by assumption) (by assumption) (by first | assumption | exact Nat.succ_ne_zero _) _; (first | rfl | (simp only [fv6, flt, *, if_true, if_false, Bool.false_eq_true]; done) | (simp only [fv6, flt, *, if_true, if_false, Bool.false_eq_true] ; rfl)))
end
end
section
open PySem PySem.W PyProof.Rows
set_option maxRecDepth 100000
section
set_option maxHeartbeats 8000000 in
theorem is_ok {w : World} {mean : ExcName → Option Value} {mg mb : Str → Option Value} (share : UInt64) (parts whole : Int) (th ts tv : Tok) (hp : parts.natAbs < 2 ^ 40) (hw : 0 < whole) (hw2 : whole < 2 ^ 40) (hz : Float64.isFinite (Float64.mul (Float64.mul share (Float64.ofInt whole)) (Float64.ofInt 1048576)) = true) :
   Con 1 w mean mg mb 70 [.float share th, .int parts ts, .int whole tv] (RetB (isF share parts whole)) := by
  k_with_none
  k_with "call builtin:max" => ((with_reducible show wpAny _ _ (call _ [Value.float _ _, Value.float _ _, Value.float _ _]) _ _ _); (rename News _ _ _ _ => N'); (rename Fr _ _ _ _ => F'); refine max_three_n (by assumption) (by assumption) (by assumption) rfl F' N' ?_; clear N'; intro _ _ _ _ _ _)
  k_with "call builtin:min" => ((with_reducible show wpAny _ _ (call _ [Value.float _ _, Value.float _ _, Value.float _ _]) _ _ _); (rename News _ _ _ _ => N'); (rename Fr _ _ _ _ => F'); refine min_three_n (by assumption) (by assumption) (by assumption) rfl F' N' ?_; clear N'; intro _ _ _ _ _ _)
  k_with "k_room" => ktr_room
  k_with "execs cons" => (k_here; (with_reducible show wpAny _ _ _ _ _ (Shared.mk _ _ _ (HAdd.hAdd _ 1) _)); refine genTokP ?_; intro tk' ntk')
  k_with "execs nil" => (k_here; (with_reducible show wpAny _ _ _ _ _ (Shared.mk _ _ _ (HAdd.hAdd _ 1) _)); refine genTokP ?_; intro tk' ntk')
  intro dp un gd cn cs a ccd cl outer A₀ base h₀ L m s Q E news B' F' X' N' T' hk hd hu hret
  w_on
  revert X'; k_fill; intro X'
  refine wpAny_call ?_
  k_dflt cell_enter
  k_steps
  all_goals first
    | (exact hret _ _ (by assumption) (by assumption))
    | (exfalso; exact absurd (by assumption) (Bool.eq_false_iff.mp (Flt.not_nan_of_finite hz)))
    | (exfalso; exact absurd (by assumption) (Bool.eq_false_iff.mp (Flt.not_inf_of_finite hz)))
end
end
section
open PySem PySem.W PyProof.Rows
set_option maxRecDepth 100000
section
set_option maxHeartbeats 8000000 in
theorem hlr_ok {w : World} {mean : ExcName → Option Value} {mg mb : Str → Option Value} (h l sa : UInt64) (th ts tv : Tok) (nts : ts ≠ 0) :
   Con 2 w mean mg mb 42 [.float h th, .float l ts, .float sa tv] (RetTN (hlsR h l sa) (hlsG h l sa) (hlsB h l sa)) := by
  k_with_none
  k_with "call builtin:max" => ((with_reducible show wpAny _ _ (call _ [Value.float _ _, Value.float _ _, Value.float _ _]) _ _ _); (rename News _ _ _ _ => N'); (rename Fr _ _ _ _ => F'); refine max_three_n (by assumption) (by assumption) (by assumption) rfl F' N' ?_; clear N'; intro _ _ _ _ _ _)
  k_with "call builtin:min" => ((with_reducible show wpAny _ _ (call _ [Value.float _ _, Value.float _ _, Value.float _ _]) _ _ _); (rename News _ _ _ _ => N'); (rename Fr _ _ _ _ => F'); refine min_three_n (by assumption) (by assumption) (by assumption) rfl F' N' ?_; clear N'; intro _ _ _ _ _ _)
  k_with "k_room" => ktr_room
  k_with "execs cons" => (k_here; (with_reducible show wpAny _ _ _ _ _ (Shared.mk _ _ _ (HAdd.hAdd _ 1) _)); refine genTokP ?_; intro tk' ntk')
  k_with "execs nil" => (k_here; (with_reducible show wpAny _ _ _ _ _ (Shared.mk _ _ _ (HAdd.hAdd _ 1) _)); refine genTokP ?_; intro tk' ntk')
  k_with "call ref" => (k_here; k_dflt (show wpAny _ _ (call (Value.ref 49) _) _ _ _); k_dflt (refine' v_ok _ _ _ _ _ _ (by first | assumption | exact Nat.succ_ne_zero _) (by first | assumption | exact Nat.succ_ne_zero _) _ _ _ _ _ _ _ _ _ _ _ _ _ _ _ _ _ _ (by k_asm) (by k_asm) (by k_asm) (by k_asm) (by k_asm) (by first | exact rfl | assumption) (by ktr_room) (by ktr_units) _; k_whole); intro _ _ _ _ _ _; (try dsimp only); (try k_fold))
  intro dp un gd cn cs a ccd cl outer A₀ base h₀ L m s Q E news B' F' X' N' T' hk hd hu hret
  w_on
  revert X'; k_fill; intro X'
  refine wpAny_call ?_
  k_dflt cell_enter
  rename Fr _ _ _ _ => F'
  replace F' := (show Fr _ _ _ (fun z => List.lookup z [(Str.ofString "s", Value.float sa tv), (Str.ofString "l", Value.float l ts), (Str.ofString "h", Value.float h th)]) from F')
  k_steps
  all_goals first
    | (refine' retTN_use hret (by assumption) (by assumption) (by assumption) (by first | assumption | exact Nat.succ_ne_zero _) (by first | assumption | exact Nat.succ_ne_zero _) (by first | assumption | exact Nat.succ_ne_zero _)  _ _ _; all_goals (first | rfl | (simp only [hlsR, hlsG, hlsB, feq, fle, lM1, lM2, *, if_true, if_false, Bool.false_eq_true, Int.reduceEq]; done) | (simp only [hlsR, hlsG, hlsB, feq, fle, lM1, lM2, *, if_true, if_false, Bool.false_eq_true, Int.reduceEq] ; rfl)))
end
end
section
open PySem PySem.W PyProof.Rows
set_option maxRecDepth 100000
section
set_option maxHeartbeats 8000000 in
theorem back_ok {w : World} {mean : ExcName → Option Value} {mg mb : Str → Option Value} (p q : Addr) (x y z : UInt64) (r g b top : Int) (t1 t2 t3 t4 t5 t6 tt : Tok) (hr0 : 0 ≤ r) (hr1 : r ≤ 2 ^ 20)(hg0 : 0 ≤ g) (hg1 : g ≤ 2 ^ 20)(hb0 : 0 ≤ b) (hb1 : b ≤ 2 ^ 20) (htop0 : 0 < top) (htop1 : top ≤ 2 ^ 20) (hx : Float64.isFinite (Float64.mul (Float64.mul x (Float64.ofInt top)) (Float64.ofInt 1048576)) = true) (hy : Float64.isFinite (Float64.mul (Float64.mul y (Float64.ofInt top)) (Float64.ofInt 1048576)) = true) (hz : Float64.isFinite (Float64.mul (Float64.mul z (Float64.ofInt top)) (Float64.ofInt 1048576)) = true) :
   ConK 2 w mean mg mb 75 [.ref p, .ref q, .int top tt] [(p, tup [.float x t1, .float y t2, .float z t3]), (q, tup [.int r t4, .int g t5, .int b t6])] (RetBK (isF x r top && (isF y g top && isF z b top))) := by
  k_with_none
  k_with "call builtin:max" => ((with_reducible show wpAny _ _ (call _ [Value.float _ _, Value.float _ _, Value.float _ _]) _ _ _); (rename News _ _ _ _ => N'); (rename Fr _ _ _ _ => F'); refine max_three_n (by assumption) (by assumption) (by assumption) rfl F' N' ?_; clear N'; intro _ _ _ _ _ _)
  k_with "call builtin:min" => ((with_reducible show wpAny _ _ (call _ [Value.float _ _, Value.float _ _, Value.float _ _]) _ _ _); (rename News _ _ _ _ => N'); (rename Fr _ _ _ _ => F'); refine min_three_n (by assumption) (by assumption) (by assumption) rfl F' N' ?_; clear N'; intro _ _ _ _ _ _)
  k_with "k_room" => ktr_room
  k_with "execs cons" => (k_here; (first | (with_reducible show wpAny _ _ _ _ _ (Shared.mk _ _ _ (HAdd.hAdd _ _) _)) | (with_reducible show wpAny _ _ _ _ _ (Shared.mk _ _ _ (Shared.toks _) _))); refine genTok ?_; intro tk')
  k_with "execs nil" => (k_here; (first | (with_reducible show wpAny _ _ _ _ _ (Shared.mk _ _ _ (HAdd.hAdd _ _) _)) | (with_reducible show wpAny _ _ _ _ _ (Shared.mk _ _ _ (Shared.toks _) _))); refine genTok ?_; intro tk')
  k_with "k_ne" => (refine neN ?_; (try dsimp only); first | (with_reducible assumption) | (with_reducible exact Ne.symm (by assumption)) | (with_reducible exact Nat.ne_of_lt (by assumption)) | (with_reducible exact Nat.ne_of_gt (by assumption)) | (with_reducible exact Nat.ne_of_lt (ltAll (by assumption) (by k_dflt k_mem))) | (with_reducible exact Nat.ne_of_gt (ltAll (by assumption) (by k_dflt k_mem))) | (with_reducible exact Nat.ne_of_lt (ltAllS (by assumption) (by k_dflt k_mem))) | (with_reducible exact Nat.ne_of_gt (ltAllS (by assumption) (by k_dflt k_mem))) | (with_reducible exact Nat.ne_of_gt (ltAllSS (by assumption) (by k_dflt k_mem))) | (with_reducible exact Nat.ne_of_lt (ltAllSS (by assumption) (by k_dflt k_mem))) | (with_reducible exact Nat.ne_of_gt (ltAllSSS (by assumption) (by k_dflt k_mem))) | (with_reducible exact Nat.ne_of_lt (ltAllSSS (by assumption) (by k_dflt k_mem))) | (with_reducible exact Nat.ne_of_lt (ltVia (by assumption) (by assumption) (by k_dflt k_mem))) | (with_reducible exact Nat.ne_of_gt (ltVia (by assumption) (by assumption) (by k_dflt k_mem))) | (with_reducible exact off1 (by assumption) (by k_dflt k_mem)) | (with_reducible exact Ne.symm (off1 (by assumption) (by k_dflt k_mem))) | (with_reducible exact offI (by assumption) (by k_dflt k_mem)) | (with_reducible exact offC (by assumption) (by k_dflt k_mem)) | (with_reducible exact offD (by assumption) (by k_dflt k_mem)) | (with_reducible exact Ne.symm (offI (by assumption) (by k_dflt k_mem))) | (with_reducible exact Ne.symm (offC (by assumption) (by k_dflt k_mem))) | (with_reducible exact Ne.symm (offD (by assumption) (by k_dflt k_mem))))
  k_with "k_lt" => skip
  k_with "k_all" => (with_reducible exact neAll (by assumption))
  k_with "CompEnd" => (k_dflt (refine compEnd_same (by with_reducible assumption) (by with_reducible assumption) (by with_reducible assumption) (by first | lcg_src | assumption) ?_))
  k_with "CompRest" => (with_unfolding_all first | (refine LCg.CompRest.succ ?_; intro v' I' oI' C' oC' D' m' h' tk' E' hv' hC' hx' F' N' off' ne'; lcg_open hv'; (have e1' := And.left ne'; have e2' := And.left (And.right ne'); have e3' := And.right (And.right ne'))) | refine LCg.CompRest.zero ?_)
  k_with "execs cons" => (k_here; (with_reducible show wpAny _ _ _ _ _ (Shared.mk _ _ _ (HAdd.hAdd _ 1) _)); refine genTokP ?_; intro tk' ntk')
  k_with "execs nil" => (k_here; (with_reducible show wpAny _ _ _ _ _ (Shared.mk _ _ _ (HAdd.hAdd _ 1) _)); refine genTokP ?_; intro tk' ntk')
  k_with "CompSrc" => (k_here; k_dflt (refine LCg.CompSrc.ledger (by rfl) (by k_asm) (by k_asm) (by k_mem) (by first | size_fits | exact Nat.le_of_ble_eq_true rfl) ?_; intro g'; lcg_lit))
  k_with "call ref" => (k_here; k_dflt (show wpAny _ _ (call (Value.ref 70) _) _ _ _); k_dflt (refine' is_ok _ _ _ _ _ _ (by omega) (by omega) (by omega) (by assumption) _ _ _ _ _ _ _ _ _ _ _ _ _ _ _ _ _ _ (by k_asm) (by k_asm) (by k_asm) (by k_asm) (by k_asm) (by first | exact rfl | assumption) (by ktr_room) (by ktr_units) _; k_whole); intro _ _ _ _; (try dsimp only); (try k_fold))
  intro dp un gd cn cs a ccd cl outer A₀ base h₀ L m s Q E B' F' X' N' T' hk hd hu hret
  have N0 := N'
  w_on
  revert X'; k_fill; intro X'
  refine wpAny_call ?_
  k_dflt (refine' code_defCG ?k1 ?k2 ?k3 ?k4 ?k5 ?kA ?kF ?kK ?k6 ?k7 ?k8 ?k9 ?kB ?kD ?_ ?c2 ?c3 ?c4; (case kA => exact rfl); (case kF => exact rfl); (case kK => assumption); (case k1 => k_asm); (case k2 => k_asm); (case k3 => k_asm); (case k4 => k_asm); (case k5 => k_asm); (case k6 => k_is); (case k7 => k_is); (case k8 => ktr_room); (case k9 => first | exact BindsTo.of_eq rfl | exact binds_K (by k_in) rfl (by k_is) rfl rfl rfl | fail "k_enter: no rule for these arguments"); (case kB => exact rfl); (case kD => decide +kernel); (case c2 => exact rfl); (case c3 => exact rfl); (case c4 => exact rfl); k_whole; intro g' L' h' tk' cells' FG' F' N' Y' B' X' T' l1 GS hL; (try k_lt l1); (have hY := CellsAre.three Y'; obtain ⟨oc0, oc1, oc2, hE', dc0, dc1, dc2⟩ := hY; subst hE'; clear Y'); (try simp only [List.cons_append, List.nil_append] at N'); (try dsimp only); (try k_lift B'); (try k_fold))
  replace F' : Fr g' L' h' (fun _ => none) := F'
  replace dc0 : oc0.data = .cell (some (.int top tt)) := dc0
  replace dc1 : oc1.data = .cell (some (.ref q)) := dc1
  replace dc2 : oc2.data = .cell (some (.ref p)) := dc2
  k_steps
  all_goals exact retBK_use hret N0 GS (by assumption) (by exact cb_drop (by assumption) (by kcj_all)) rfl
end
end
section
open PySem PySem.W PyProof.Rows
set_option maxRecDepth 100000
section
set_option maxHeartbeats 8000000 in
theorem place_ok {w : World} {mean : ExcName → Option Value} {mg mb : Str → Option Value} (p : Addr) (r g b sp : Int) (tr tg tb ts : Tok) (hsp : sp ≠ 0) :
   ConT 2 w mean mg mb 82 [.ref p, .int sp ts] p (tup [.int r tr, .int g tg, .int b tb]) (fun t => .int (placeOf r g b sp) t) := by
  k_with_none
  k_with "call builtin:max" => ((with_reducible show wpAny _ _ (call _ [Value.float _ _, Value.float _ _, Value.float _ _]) _ _ _); (rename News _ _ _ _ => N'); (rename Fr _ _ _ _ => F'); refine max_three_n (by assumption) (by assumption) (by assumption) rfl F' N' ?_; clear N'; intro _ _ _ _ _ _)
  k_with "call builtin:min" => ((with_reducible show wpAny _ _ (call _ [Value.float _ _, Value.float _ _, Value.float _ _]) _ _ _); (rename News _ _ _ _ => N'); (rename Fr _ _ _ _ => F'); refine min_three_n (by assumption) (by assumption) (by assumption) rfl F' N' ?_; clear N'; intro _ _ _ _ _ _)
  k_with "k_room" => ktr_room
  k_with "execs cons" => (k_here; (first | (with_reducible show wpAny _ _ _ _ _ (Shared.mk _ _ _ (HAdd.hAdd _ _) _)) | (with_reducible show wpAny _ _ _ _ _ (Shared.mk _ _ _ (Shared.toks _) _))); refine genTok ?_; intro tk')
  k_with "execs nil" => (k_here; (first | (with_reducible show wpAny _ _ _ _ _ (Shared.mk _ _ _ (HAdd.hAdd _ _) _)) | (with_reducible show wpAny _ _ _ _ _ (Shared.mk _ _ _ (Shared.toks _) _))); refine genTok ?_; intro tk')
  k_with "k_ne" => (refine neN ?_; (try dsimp only); first | (with_reducible assumption) | (with_reducible exact Ne.symm (by assumption)) | (with_reducible exact Nat.ne_of_lt (by assumption)) | (with_reducible exact Nat.ne_of_gt (by assumption)) | (with_reducible exact Nat.ne_of_lt (ltAll (by assumption) (by k_dflt k_mem))) | (with_reducible exact Nat.ne_of_gt (ltAll (by assumption) (by k_dflt k_mem))) | (with_reducible exact Nat.ne_of_lt (ltAllS (by assumption) (by k_dflt k_mem))) | (with_reducible exact Nat.ne_of_gt (ltAllS (by assumption) (by k_dflt k_mem))) | (with_reducible exact Nat.ne_of_gt (ltAllSS (by assumption) (by k_dflt k_mem))) | (with_reducible exact Nat.ne_of_lt (ltAllSS (by assumption) (by k_dflt k_mem))) | (with_reducible exact Nat.ne_of_gt (ltAllSSS (by assumption) (by k_dflt k_mem))) | (with_reducible exact Nat.ne_of_lt (ltAllSSS (by assumption) (by k_dflt k_mem))) | (with_reducible exact Nat.ne_of_lt (ltVia (by assumption) (by assumption) (by k_dflt k_mem))) | (with_reducible exact Nat.ne_of_gt (ltVia (by assumption) (by assumption) (by k_dflt k_mem))) | (with_reducible exact off1 (by assumption) (by k_dflt k_mem)) | (with_reducible exact Ne.symm (off1 (by assumption) (by k_dflt k_mem))) | (with_reducible exact offI (by assumption) (by k_dflt k_mem)) | (with_reducible exact offC (by assumption) (by k_dflt k_mem)) | (with_reducible exact offD (by assumption) (by k_dflt k_mem)) | (with_reducible exact Ne.symm (offI (by assumption) (by k_dflt k_mem))) | (with_reducible exact Ne.symm (offC (by assumption) (by k_dflt k_mem))) | (with_reducible exact Ne.symm (offD (by assumption) (by k_dflt k_mem))))
  k_with "k_lt" => skip
  k_with "CompRest" => (with_unfolding_all first | (refine LCg.CompRest.succ ?_; intro v' I' oI' C' oC' D' m' h' tk' E' hv' hC' hx' F' N' off' ne'; lcg_open hv'; (have e1' := And.left ne'; have e2' := And.left (And.right ne'); have e3' := And.right (And.right ne'))) | refine LCg.CompRest.zero ?_)
  k_with "execs cons" => (k_here; (with_reducible show wpAny _ _ _ _ _ (Shared.mk _ _ _ (HAdd.hAdd _ 1) _)); refine genTokP ?_; intro tk' ntk')
  k_with "execs nil" => (k_here; (with_reducible show wpAny _ _ _ _ _ (Shared.mk _ _ _ (HAdd.hAdd _ 1) _)); refine genTokP ?_; intro tk' ntk')
  k_with "eval Lambda" => (k_here; k_dflt (refine' kla_eval (by exact rfl) _); k_dflt (refine' my_lam (pre := [_, _, _]) (by k_asm) (by k_asm) (by k_asm) (by kn_code) (by exact rfl) (by k_all) (by assumption) (by exact rfl) _); k_whole; intro f' c' oc' ps' vs' t' ct' h' tk' F' N' d1' d2' tb' n77 l1 l2 l3 l4 hnew'; (try simp only [List.cons_append, List.nil_append] at N'); (try k_lt l1))
  k_with "execs cons" => (k_here; (rename News _ _ _ _ => N9); dsimp only at N9; walk_at "execs cons")
  k_with "exec Assign" => (k_here; (with_reducible show wpAny _ _ (exec (Stmt.Assign [Expr.Tuple _ _ _] _ _) _) _ _ _); (fail_if_success (rename JPMark => hM)); (rename Fr _ _ _ _ => F9); refine joinP (r := r) (g := g) (b := b) (sp := sp) (ts := ts) (L1 := L' + 1) (oc0 := oc0) (p := p) (op := tup [.int r tr, .int g tg, .int b tb]) (c0 := c0) (ocz := oc) F9 (fun hM => ?_) ?_)
  k_with "JP" => (k_dflt (refine' JP.intro _ (by assumption) (by assumption) (by assumption) (by k_mem) (by k_mem) (by k_mem) (by k_mem) (by k_mem) (by assumption) (by k_mem)); first | exact Or.inl ⟨(by first | assumption | omega), (by first | assumption | omega), rfl, rfl, rfl⟩ | exact Or.inr (Or.inl ⟨(by first | assumption | omega), (by first | assumption | omega), (by first | assumption | omega), rfl, rfl, rfl⟩) | exact Or.inr (Or.inr (Or.inl ⟨(by first | assumption | omega), (by first | assumption | omega), (by first | assumption | omega), rfl, rfl, rfl⟩)) | exact Or.inr (Or.inr (Or.inr (Or.inl ⟨(by first | assumption | omega), (by first | assumption | omega), rfl, rfl, rfl⟩))) | exact Or.inr (Or.inr (Or.inr (Or.inr (Or.inl ⟨(by first | assumption | omega), (by first | assumption | omega), (by first | assumption | omega), rfl, rfl, rfl⟩)))) | exact Or.inr (Or.inr (Or.inr (Or.inr (Or.inr (⟨(by first | assumption | omega), (by first | assumption | omega), (by first | assumption | omega), rfl, rfl, rfl⟩))))))
  k_with "KJoinB2" => ((show ∀ _ _ _ _ _ _ _ _ _ _ _, _); intro lo9 mi9 hi9 u1 u2 u3 ps9 c9 oc9 h9 tk9 o9 k1 k2 k3 F9 N9 tb9 hn9; (try k_sweep))
  k_with "subscriptTail" => (k_here; (with_reducible show wpAny _ _ (subscriptTail _ _ (Value.ref _) (Value.int _ _)) _ _ _); k_dflt (refine sub3 (by k_asm) (by k_mem) (by with_reducible assumption) ?_); intro _)
  intro dp un gd cn cs a ccd cl outer A₀ base h₀ L m s Q E ps c0 oc B' F' X' N' T' hk hd hu p77 C77 tab hret
  have N0 := N'
  w_on
  revert X'; k_fill; intro X'
  refine wpAny_call ?_
  k_dflt (refine' code_defCG ?k1 ?k2 ?k3 ?k4 ?k5 ?kA ?kF ?kK ?k6 ?k7 ?k8 ?k9 ?kB ?kD ?_ ?c2 ?c3 ?c4; (case kA => exact rfl); (case kF => exact rfl); (case kK => assumption); (case k1 => k_asm); (case k2 => k_asm); (case k3 => k_asm); (case k4 => k_asm); (case k5 => k_asm); (case k6 => k_is); (case k7 => k_is); (case k8 => ktr_room); (case k9 => first | exact BindsTo.of_eq rfl | exact binds_K (by k_in) rfl (by k_is) rfl rfl rfl | fail "k_enter: no rule for these arguments"); (case kB => exact rfl); (case kD => decide +kernel); (case c2 => exact rfl); (case c3 => exact rfl); (case c4 => exact rfl); k_whole; intro g' L' h' tk' cells' FG' F' N' Y' B' X' T' l1 GS hL; (try k_lt l1); (have hY := CellsAre.one Y'; obtain ⟨oc0, hE', dc0⟩ := hY; subst hE'; clear Y'); (try simp only [List.cons_append, List.nil_append] at N'); (try dsimp only); (try k_lift B'); (try k_fold))
  replace F' : Fr g' L' h' (fun y => if y = Str.ofString "spread" then some (.int sp ts) else none) := F'
  replace dc0 : oc0.data = .cell (some (.ref p)) := dc0
  k_steps
  all_goals (refine' retP_use hret N0 GS (by assumption) (by assumption) (by assumption) (by k_mem) (by k_mem) (by k_mem) (by k_mem) (by exact fresh_of (by assumption) hL) _; first | exact place_turn (by assumption) (by assumption) | exact place_stay (by assumption) (by assumption))
end
end
section
set_option maxRecDepth 100000
section
open PySem PySem.W PySem.Calls PyProof.Rows PySem.SeqAt
section
variable {prog : Program} {w : World} {M : Model} {A : Around} {E : Value → Shared → Prop} {s : Shared}
theorem isSame_float {x y : UInt64} {u v : Tok} {Q : Bool → Shared → Prop}
    (hu : u ≠ 0) (hv : v ≠ 0) (hb : NoneBooked s.heap) (hq : ∀ b, Q b s) : wpAny M A (isSame (.float x u) (.float y v)) Q E s := by
  show wpAny M A (isSame.created (x == y && !Float64.isNaN x) u v) Q E s
  unfold isSame.created
  have h0 : (u == 0 || v == 0) = false := by simp [hu, hv]
  refine wpAny_ite ?_
  split
  · rename_i h; rw [h0] at h; exact absurd h Bool.false_ne_true
  refine wpAny_ite ?_
  split
  · exact wpAny_pure (hq _)
  refine wpAny_ite ?_
  split
  · exact wpAny_pure (hq _)
  refine wpAny_bind (wpAny_sharingNotTold_none hb ?_)
  simp only [Bool.false_eq_true, if_false]
  refine wpAny_bind (wpAny_sharingNotTold_none hb ?_)
  simp only [Bool.false_eq_true, if_false]
  exact wpAny_bind (wpAny_rule (wpAny_bind (wpAny_askSetting (wpAny_pure (hq _)))))
theorem eqAt_float {x y : UInt64} {u v : Tok} (hu : u ≠ 0) (hv : v ≠ 0) (hb : NoneBooked s.heap) (h : feq x y = true) : EqAt A s (.float x u) (.float y v) true := by
  intro prog w E Q hq
  unfold eqBool
  refine wpAny_holding ?_
  show wpAny _ _ (if (Value.float x u == Value.float y v) = true then _ else _) Q E s
  by_cases hab : (Value.float x u == Value.float y v) = true
  · rw [if_pos hab]
    exact wpAny_bind (wpAny_rule (wpAny_pure hq))
  · rw [if_neg hab]
    refine wpAny_bind (isSame_float hu hv hb fun b => ?_)
    cases b with
    | true => exact wpAny_pure hq
    | false =>
      show wpAny _ _ (richCompare .Eq (.float x u) (.float y v) >>= fun r => truthOfDropped r) Q E s
      unfold feq at h
      refine wpAny_bind (richCompare_gives (op := .Eq) (typeIs_float s x u) (typeIs_float s y v) F.slot_float_eq F.entry_float_eq (F.args_float_eq_2 _ _) (AutoFloatG5.float___eq___float_float_0 x u y v) (fun x => nomatch x) ?_)
      show wpAny _ _ (truthOfDropped (.bool (Float64.cmp x y == some .eq))) Q E s
      rw [h]
      exact wpAny_truthy_bool hq
theorem noneBooked {K : Frag} {h : Heap} (X : K.In h) (e : nsOkIn K cStatics = true) (q : nsIn K cStatics sharingNotToldKey = some none) : NoneBooked h :=
  ⟨_, .of_isNs (isNs_of_in X e), nsMap_none_of_in X e q⟩
theorem eq_tup3 {h₀ : Heap} {L p q : Addr} {m : Str → Option Value} {news : List (Addr × Obj)} {K : Frag} {x1 x2 x3 y1 y2 y3 : UInt64} {t1 t2 t3 u1 u2 u3 : Tok} {Q : Value → Shared → Prop} (F : Fr h₀ L s.heap m) (N : News h₀ L s.heap news) (X : K.In h₀)
    (hp : (p, tup [.float x1 t1, .float x2 t2, .float x3 t3]) ∈ news) (hq : (q, tup [.float y1 u1, .float y2 u2, .float y3 u3]) ∈ news)
    (e1 : feq x1 y1 = true) (e2 : feq x2 y2 = true) (e3 : feq x3 y3 = true) (n1 : t1 ≠ 0) (n2 : t2 ≠ 0) (n3 : t3 ≠ 0) (k1 : u1 ≠ 0) (k2 : u2 ≠ 0) (k3 : u3 ≠ 0)
    (ok : nsOkIn K cStatics = true) (nk : nsIn K cStatics sharingNotToldKey = some none) (hu : A.units < cLine) (h : Q (.bool true) s) : wpAny (model prog w) A (compareOp .Eq (.ref p) (.ref q)) Q E s := by
  have nb : NoneBooked s.heap := noneBooked (X.keeps F.keep) ok nk
  refine eq_tupleAt (e := fun _ => true) ⟨_, (N _ hp).1, rfl, 0, rfl⟩ ⟨_, (N _ hq).1, rfl, 0, rfl⟩ hu (fun j h1 h2 => ?_) h
  have hj : j < 3 := h1
  match j, hj with
  | 0, _ => exact eqAt_float n1 k1 nb e1
  | 1, _ => exact eqAt_float n2 k2 nb e2
  | 2, _ => exact eqAt_float n3 k3 nb e3
end
end
end
section
set_option maxRecDepth 100000
section
open PySem PySem.W PySem.Calls PyProof.Rows
theorem stat_ok (p : Params) : nsOkIn (hd01.heap_39 p) cStatics = true := by kernel_rfl
theorem stat_no (p : Params) : nsIn (hd01.heap_39 p) cStatics sharingNotToldKey = some none := by kernel_rfl
end
section
open PySem PySem.W PySem.Calls PyProof.Rows
theorem eq_tup_w {prog : Program} {w w' : World} {A : Around} {E : Value → Shared → Prop} {s : Shared} {h₀ : Heap} {L p q : Addr} {m : Str → Option Value} {news : List (Addr × Obj)} {x1 x2 x3 y1 y2 y3 : UInt64} {t1 t2 t3 u1 u2 u3 : Tok} {Q : Value → Shared → Prop} (F : Fr h₀ L s.heap m) (N : News h₀ L s.heap news) (X : (hd01.heap_39 w'.params).In h₀)
    (hp : (p, tup [.float x1 t1, .float x2 t2, .float x3 t3]) ∈ news) (hq : (q, tup [.float y1 u1, .float y2 u2, .float y3 u3]) ∈ news)
    (e1 : feq x1 y1 = true) (e2 : feq x2 y2 = true) (e3 : feq x3 y3 = true) (n1 : t1 ≠ 0) (n2 : t2 ≠ 0) (n3 : t3 ≠ 0) (k1 : u1 ≠ 0) (k2 : u2 ≠ 0) (k3 : u3 ≠ 0)
    (hu : A.units < cLine) (h : Q (.bool true) s) : wpAny (model prog w) A (compareOp .Eq (.ref p) (.ref q)) Q E s :=
  eq_tup3 F N X hp hq e1 e2 e3 n1 n2 n3 k1 k2 k3 (stat_ok _) (stat_no _) hu h
end
section
open PySem PySem.W PySem.Calls PyProof.Rows
theorem units_deeper {dp un : Nat} {gd : Option (List Code)} {cn : Str} {cs : Scope} {L a : Addr} {ccd : Value} {cl : List (Str × Addr)} {outer : List Env} {env : Env} (hu : un + 8 * 4 < cLine) : ((ktrTop dp un gd cn cs L a ccd cl outer).deeper env).units < cLine := by
  have h : ((ktrTop dp un gd cn cs L a ccd cl outer).deeper env).units ≤ un + 8 := by
    show _ ≤ _
    exact Nat.le_of_ble_eq_true (by simp [Around.deeper, ktrTop])
  omega
end
end
section
set_option maxRecDepth 100000
section
open PySem PySem.W PySem.Calls PyProof.Rows
section
variable {prog : Program} {w : World} {M : Model} {A : Around} {E : Value → Shared → Prop} {s : Shared} {h₀ : Heap} {L D b : Addr} {m : Str → Option Value} {news news' : List (Addr × Obj)} {its its2 : Array Value} {n n2 : Nat} {l vs : List Value}
theorem inplace_list {a b : Value} {Q : Value → Shared → Prop} (ha : s.TypeIs a "list") (hb : s.TypeIs b "list") (hc : wpAny M A (call (.builtin "list.__iadd__") [a, b]) Q E s) : wpAny M A (inplaceOp .Add a b) Q E s := by
  unfold inplaceOp
  refine wpAny_holding ?_
  have hl : typeLookup (.type "list") (dunderI "add") = pure (some (.builtin "list.__iadd__")) := PySem.F.slot_list_iadd.lookup
  have hs : isSeqSlot (some (.builtin "list.__iadd__")) = true := by decide +kernel
  have hfi : fillsInplaceSlot (.type "list") "add" (Operator.Add == .Add) = pure false := by
    unfold fillsInplaceSlot
    show (typeLookup (.type "list") (dunderI "add") >>= fun fi => pure (fi.isSome && !isSeqSlot fi)) = pure false
    rw [hl, pure_bind, hs]; rfl
  have hsi : seqSlot? (.type "list") (dunderI "add") = pure (some (.builtin "list.__iadd__")) := PySem.seqSlot_of hl hs
  refine wpAny_bind (wpAny_typeOf ha (wpAny_bind (wpAny_of_eq hfi ?_)))
  show wpAny M A (if false = true then _ else _) Q E s
  rw [if_neg Bool.false_ne_true]
  refine wpAny_bind (wpAny_binaryOp1_none (nm := "add") ha hb noFill_list_add ?_)
  refine wpAny_bind (wpAny_of_eq hsi ?_)
  exact wpAny_bind (wpAny_rule hc)
theorem iadd_list {Q : Value → Shared → Prop} (F : Fr h₀ L s.heap m) (N : News h₀ L s.heap news) (hb : (b, listOf its2 n2) ∈ news)
    (U : Upd D (listOf its n) (listOf l.toArray (n + 1)) news news') (e : its.toList ++ its2.toList = l) (hne : its2.toList.length ≠ 0) (hd : ¬(!its.isEmpty && Builtin.List.listTooLong (its.size + its2.size)) = true) (hz : its.toList.length ≤ sizeLine) (hz2 : its.size + its2.size ≤ sizeLine + 1)
    (h : ∀ h', Fr h₀ L h' m → News h₀ L h' news' → Q (.ref D) { s with heap := h' }) : wpAny (model prog w) A (inplaceOp .Add (.ref D) (.ref b)) Q E s := by
  obtain ⟨pre, post, rfl, rfl, a, c⟩ := U.split
  have z := N (D, listOf its n) (List.mem_append.mpr (.inr (.head _)))
  refine inplace_list ⟨_, z.1, rfl⟩ ⟨_, (N _ hb).1, rfl⟩ (call_meets PySem.F.slot_list_iadd ⟨_, z.1, rfl⟩ PySem.F.entry_list_iadd (PySem.F.args_list_iadd_2 _ _) (PySem.AutoSeq1.list___iadd___list_list_0 D its n b its2 n2 hd (by simpa using hz) hz2) ⟨z.1, (N _ hb).1, h _ (F.change (Heap.SameBut.update ..) z.2.1 z.2.2) (kl_turn _ N a c ?_ ?_)⟩)
  · subst e
    apply Array.toList_inj.mp
    simp
  · subst e
    simp at hne ⊢
    exact hne
end
end
end
section
open PySem PySem.W PyProof.Rows
section
@[irreducible] def sh (a b : Int) : UInt64 := Float64.ofFrac (decide (a < 0) != decide (b < 0)) a.natAbs b.natAbs
theorem sh_def (a b : Int) : sh a b = Float64.ofFrac (decide (a < 0) != decide (b < 0)) a.natAbs b.natAbs := by unfold sh; rfl
theorem div_sh {prog : Program} {w : World} {A : Around} {E : Value → Shared → Prop} {s : Shared} {Q : Value → Shared → Prop} {a b : Int} {t u : Tok} {x : UInt64} (hA : A.handled = none) (hfit : a.natAbs < 2 ^ 40) (hb : b ≠ 0) (e : sh a b = x)
    (h : Q (.float x s.toks) { s with toks := s.toks + 1 }) : wpAny (model prog w) A (binaryOp .Div (.int a t) (.int b u)) Q E s := by
  subst e
  rw [sh_def] at h
  exact Flt.div_ii_fits hA (Nat.lt_of_lt_of_le hfit (Nat.pow_le_pow_right (by decide) (by decide))) (fun h => absurd h hb) (fun _ _ => h)
structure Is (x : UInt64) (p w : Int) : Prop where
  hp : p.natAbs < 2 ^ 40
  hw : 0 < w
  hw2 : w < 2 ^ 40
  fin : Float64.isFinite (Float64.mul (Float64.mul x (Float64.ofInt w)) (Float64.ofInt 1048576)) = true
  is : isF x p w = true
end
end
section
open PySem PySem.W PyProof.Rows
section
noncomputable def NZ (t : Tok) : Prop := t ≠ 0
theorem nz_succ (n : Nat) : NZ (n + 1) := Nat.succ_ne_zero _
theorem genTokZ {α : Type} {M : Model} {A : Around} {t : Sem α} {Q : α → Shared → Prop} {E : Value → Shared → Prop} {h : Heap} {g : Array GenState} {d : Drawn} {X : Nat} {os : OsState} (H : ∀ tk : Nat, NZ tk → wpAny M A t Q E ⟨h, g, d, tk, os⟩) : wpAny M A t Q E ⟨h, g, d, X + 1, os⟩ := H _ (Nat.succ_ne_zero _)
noncomputable abbrev RetTZ (x y z : UInt64) (h₀ : Heap) (L : Addr) (m : Str → Option Value) (news : List (Addr × Obj)) (s : Shared) (Q : Value → Shared → Prop) : Prop :=
  ∀ (p : Addr) (t1 t2 t3 : Tok) (h' : Heap) (tk' : Nat), NZ t1 → NZ t2 → NZ t3 → Fr h₀ L h' m → News h₀ L h' ((p, tup [.float x t1, .float y t2, .float z t3]) :: news) → (∀ q ∈ news, q.1 < p) → Q (.ref p) { s with heap := h', toks := tk' }
section
variable {w : World} {mean : ExcName → Option Value} {mg mb : Str → Option Value}
theorem hsv_k {r g b x y z : UInt64} {tr tg tb : Tok} (n1 : NZ tr) (n2 : NZ tg) (n3 : NZ tb) (ex : hueOf r g b = x) (ey : satV r g b = y) (ez : fmax3 r g b = z) (hz : grey r g b = false → ¬ Float64.isZero (fmax3 r g b) = true ∧ ¬ Float64.isZero (rg r g b) = true) :
    Con 1 w mean mg mb 56 [.float r tr, .float g tg, .float b tb] (RetTZ x y z) := by
  subst ex ey ez; exact hsv_ok r g b tr tg tb n1 n2 n3 hz
theorem hls_k {r g b x y z : UInt64} {tr tg tb : Tok} (n1 : NZ tr) (n2 : NZ tg) (n3 : NZ tb) (ex : hueOf r g b = x) (ey : light r g b = y) (ez : satL r g b = z) (hz : grey r g b = false → ¬ Float64.isZero (rg r g b) = true ∧ (fle (light r g b) cHalf = true → ¬ Float64.isZero (Float64.add (fmax3 r g b) (fmin3 r g b)) = true) ∧ (fle (light r g b) cHalf = false → ¬ Float64.isZero (Float64.sub (Float64.sub c2 (fmax3 r g b)) (fmin3 r g b)) = true)) :
    Con 1 w mean mg mb 35 [.float r tr, .float g tg, .float b tb] (RetTZ x y z) := by
  subst ex ey ez; exact hls_ok r g b tr tg tb n1 n2 n3 hz
theorem yiq_k {r g b x y z : UInt64} {tr tg tb : Tok} (ex : yiqY r g b = x) (ey : yiqI r g b = y) (ez : yiqQ r g b = z) : Con 1 w mean mg mb 21 [.float r tr, .float g tg, .float b tb] (RetT x y z) := by
  subst ex ey ez; exact yiq_ok r g b tr tg tb
theorem hr_k {r g b x y z : UInt64} {tr tg tb : Tok} (n3 : NZ tb) (ex : hsvR r g b = x) (ey : hsvG r g b = y) (ez : hsvB r g b = z) (hz : feq g 0 = false → Float64.isFinite (Float64.mul r c6) = true ∧ (sec r).natAbs < 2 ^ 1024 - 2 ^ 970) : Con 1 w mean mg mb 63 [.float r tr, .float g tg, .float b tb] (RetTZ x y z) := by
  subst ex ey ez; exact hr_ok r g b tr tg tb n3 hz
theorem hlr_k {r g b x y z : UInt64} {tr tg tb : Tok} (n2 : NZ tg) (ex : hlsR r g b = x) (ey : hlsG r g b = y) (ez : hlsB r g b = z) : Con 2 w mean mg mb 42 [.float r tr, .float g tg, .float b tb] (RetTZ x y z) := by
  subst ex ey ez; exact hlr_ok r g b tr tg tb n2
theorem yr_k {r g b x y z : UInt64} {tr tg tb : Tok} (ex : yR r g b = x) (ey : yG r g b = y) (ez : yB r g b = z) : Con 1 w mean mg mb 28 [.float r tr, .float g tg, .float b tb] (RetT x y z) := by
  subst ex ey ez; exact yr_ok r g b tr tg tb
theorem is_k {x : UInt64} {parts whole : Int} {th ts tv : Tok} (hz : Is x parts whole) : Con 1 w mean mg mb 70 [.float x th, .int parts ts, .int whole tv] (RetB true) := by
  have := is_ok (w := w) (mean := mean) (mg := mg) (mb := mb) x parts whole th ts tv hz.hp hz.hw hz.hw2 hz.fin
  rw [hz.is] at this; exact this
theorem back_k {p q : Addr} {x y z : UInt64} {r g b top : Int} {t1 t2 t3 t4 t5 t6 tt : Tok} (hr0 : 0 ≤ r) (hr1 : r ≤ 2 ^ 20)(hg0 : 0 ≤ g) (hg1 : g ≤ 2 ^ 20)(hb0 : 0 ≤ b) (hb1 : b ≤ 2 ^ 20) (htop0 : 0 < top) (htop1 : top ≤ 2 ^ 20) (hx : Is x r top) (hy : Is y g top) (hz : Is z b top) :
   ConK 2 w mean mg mb 75 [.ref p, .ref q, .int top tt] [(p, tup [.float x t1, .float y t2, .float z t3]), (q, tup [.int r t4, .int g t5, .int b t6])] (RetBK true) := by
  have := back_ok (w := w) (mean := mean) (mg := mg) (mb := mb) p q x y z r g b top t1 t2 t3 t4 t5 t6 tt hr0 hr1 hg0 hg1 hb0 hb1 htop0 htop1 hx.fin hy.fin hz.fin
  rw [hx.is, hy.is, hz.is] at this; exact this
end
theorem fr77 {h₀ h h' : Heap} {L : Addr} {m : Str → Option Value} {news : List (Addr × Obj)} {o : Obj} (F : Fr h₀ L h m) (N : News h₀ L h news) (hm : (77, o) ∈ news) (k : Keep77 h h') : Fr h₀ L h' m := by
  have n7 := N _ hm
  refine ⟨F.ns.at' fun o e => k L o (fun e => n7.2.1 e.symm) e, fun b o e => k b o (fun hb => ?_) (F.keep b o e), F.above⟩
  subst hb
  rw [n7.2.2] at e; cases e
theorem news77 {h₀ h h' : Heap} {L : Addr} {pre : List (Addr × Obj)} {p c0 c1 : Addr} {op oc oc1 : Obj} {ps ps1 : Array Value} (N : News h₀ L h (pre ++ [(77, tabObj ps), (c0, oc)])) (k : Keep77 h h') (off : ∀ q ∈ pre, q.1 ≠ 77) (nc : @Ne Nat c0 77)
    (N1 : News h₀ L h' [(p, op), (77, tabObj ps1), (c1, oc1)]) : News h₀ L h' (pre ++ [(77, tabObj ps1), (c1, oc1), (c0, oc)]) := fun q hq => by
  rcases List.mem_append.mp hq with hq | hq
  · have := N q (List.mem_append_left _ hq)
    exact ⟨k _ _ (off q hq) this.1, this.2⟩
  · simp only [List.mem_cons, List.not_mem_nil, or_false] at hq
    rcases hq with rfl | rfl | rfl
    · exact N1 _ (by simp)
    · exact N1 _ (by simp)
    · have := N (c0, oc) (by simp)
      exact ⟨k _ _ nc this.1, this.2⟩
theorem place_w {w : World} {mean : ExcName → Option Value} {mg mb : Str → Option Value} {p l : Addr} {r g b sp : Int} {tr tg tb ts : Tok} {dp un : Nat} {gd : Option (List Code)} {cn : Str} {cs : Scope} {a : Addr} {ccd : Value} {cl : List (Str × Addr)} {outer : List Env} {A₀ : Around} {base h₀ : Heap} {L : Addr} {m : Str → Option Value} {s : Shared} {Q E : Value → Shared → Prop}
    {pre : List (Addr × Obj)} {ps : Array Value} {c0 : Addr} {oc : Obj} {b1 b2 b3 b4 b5 b6 b7 b8 b9 b10 : Value} {n : Nat}
    (F' : Fr h₀ L s.heap m) (tab : TabOk lamPos lamQual ps c0 oc) (N' : News h₀ L s.heap (pre ++ [(77, tabObj ps), (c0, oc)])) (m1 : (p, tup [.int r tr, .int g tg, .int b tb]) ∈ pre) (off : ∀ q ∈ pre, q.1 ≠ 77)
    (hl : (l, listOf #[b1, b2, b3, b4, b5, b6, b7, b8, b9, b10] n) ∈ pre) (hlc : @LT.lt Nat _ c0 l) (hsp : sp ≠ 0) (p77 : @LT.lt Nat _ 77 p) (C77 : CodeHd base 81 77)
    (B' : Below A₀ base outer h₀) (X' : (hd01.heap_39 w.params).In h₀) (T' : Top topProg loose1 mean mg mb h₀) (hk : cs.kind = .function) (hd : dp + 2 < recursionLimit) (hu : un + 8 * 2 < cLine)
    (hret : ∀ (t : Tok) (h' : Heap) (tk' : Nat) (ps1 : Array Value) (c1 : Addr) (oc1 : Obj), Fr h₀ L h' m → News h₀ L h' (pre ++ [(77, tabObj ps1), (c1, oc1), (c0, oc)]) → TabOk lamPos lamQual ps1 c1 oc1 → @Ne Nat c1 l → (c1 = c0 ∨ @LT.lt Nat _ L c1) → Q (.int (placeOf r g b sp) t) { s with heap := h', toks := tk' }) :
    wpAny (model Challenge.rw_mj0002_01.row.prog w) (ktrTop dp un gd cn cs L a ccd cl outer) (call (.ref 82) [.ref p, .int sp ts]) Q E s := by
  refine place_ok p r g b sp tr tg tb ts hsp _ _ _ _ _ _ _ _ _ _ _ _ _ _ _ _ _ ps c0 oc B' F' X' (fun e he => N' e ?_) T' hk hd hu p77 C77 tab fun t h' tk' ps1 c1 oc1 k N1 tb hn => hret t h' tk' ps1 c1 oc1 (fr77 F' N' (List.mem_append_right _ (List.mem_cons_self ..)) k) (news77 N' k off tab.1 N1) tb ?_ ?_
  · simp only [List.mem_cons, List.not_mem_nil, or_false] at he
    rcases he with rfl | rfl | rfl
    · exact List.mem_append_left _ m1
    · simp
    · simp
  · have hlt := Heap.lt_size (N' _ (List.mem_append_left _ hl)).1
    rcases hn with h | h
    · rw [h]; exact Nat.ne_of_lt hlc
    · exact Nat.ne_of_gt (Nat.lt_of_lt_of_le hlt h)
  · rcases hn with h | h
    · exact Or.inl h
    · exact Or.inr (Nat.lt_of_lt_of_le F'.ns.lt h)
theorem hn_of {c1 c0 L' : Addr} {n : Nat} (h : c1 = c0 ∨ @LT.lt Nat _ L' c1) (hL : @LE.le Nat _ n L') : c1 = c0 ∨ @LE.le Nat _ n c1 := by
  rcases h with h | h
  · exact Or.inl h
  · exact Or.inr (Nat.le_trans hL (Nat.le_of_lt h))
end
section
open PySem PySem.W PyProof.Rows
theorem back_w {w : World} {mean : ExcName → Option Value} {mg mb : Str → Option Value} {p q : Addr} {x y z : UInt64} {r g b top : Int} {t1 t2 t3 t4 t5 t6 tt : Tok} {dp un : Nat} {gd : Option (List Code)} {cn : Str} {cs : Scope} {a : Addr} {ccd : Value} {cl : List (Str × Addr)} {outer : List Env} {A₀ : Around} {base h₀ : Heap} {L : Addr} {m : Str → Option Value} {s : Shared} {Q E : Value → Shared → Prop} {news : List (Addr × Obj)}
    (F' : Fr h₀ L s.heap m) (N' : News h₀ L s.heap news) (m1 : (p, tup [.float x t1, .float y t2, .float z t3]) ∈ news) (m2 : (q, tup [.int r t4, .int g t5, .int b t6]) ∈ news)
    (hr0 : 0 ≤ r) (hr1 : r ≤ 2 ^ 20)(hg0 : 0 ≤ g) (hg1 : g ≤ 2 ^ 20)(hb0 : 0 ≤ b) (hb1 : b ≤ 2 ^ 20) (htop0 : 0 < top) (htop1 : top ≤ 2 ^ 20) (hx : Is x r top) (hy : Is y g top) (hz : Is z b top)
    (B' : Below A₀ base outer h₀) (X' : (hd01.heap_39 w.params).In h₀) (T' : Top topProg loose1 mean mg mb h₀) (hk : cs.kind = .function) (hd : dp + 2 < recursionLimit) (hu : un + 8 * 2 < cLine)
    (hret : ∀ (h' : Heap) (tk' : Nat), Fr h₀ L h' m → News h₀ L h' news → Q (.bool true) { s with heap := h', toks := tk' }) :
    wpAny (model Challenge.rw_mj0002_01.row.prog w) (ktrTop dp un gd cn cs L a ccd cl outer) (call (.ref 75) [.ref p, .ref q, .int top tt]) Q E s :=
  back_k hr0 hr1 hg0 hg1 hb0 hb1 htop0 htop1 hx hy hz _ _ _ _ _ _ _ _ _ _ _ _ _ _ _ _ _ B' F' X' (fun e he => N' e (by
    rcases List.mem_cons.mp he with rfl | he
    · exact m1
    · rw [List.mem_singleton.mp he]; exact m2)) T' hk hd hu fun h' tk' kp => hret h' tk' (F'.keeps kp) (N'.grown kp)
end
section
open PySem PySem.W PyProof.Rows
noncomputable def Mx3 (a b c x : Int) : Prop := max (max a b) c = x
noncomputable def Mn3 (a b c x : Int) : Prop := min (min a b) c = x
noncomputable def Mn2 (a b x : Int) : Prop := min a b = x
theorem ite_sp {x : Int} {P Q : Prop} (h1 : x ≠ 0 → P) (h2 : x = 0 → Q) : if (x != 0) = true then P else Q := by
  by_cases h : x = 0
  · rw [if_neg (by simp [h])]; exact h2 h
  · rw [if_pos (by simp [h])]; exact h1 h
section
variable {prog : Program} {w : World} {A : Around} {E : Value → Shared → Prop} {s : Shared} {Q : Value → Shared → Prop}
theorem max_tup_x {a b c y : Int} {t u x : Tok} {l : Addr} {h₀ : Heap} {L : Addr} {m : Str → Option Value} {news : List (Addr × Obj)} (hh : A.handled = none) (F : Fr h₀ L s.heap m) (N : News h₀ L s.heap news)
    (hm : (l, ({ cls := .type "tuple", data := .seq #[.int a t, .int b u, .int c x] } : Obj)) ∈ news) (e : Mx3 a b c y)
    (h : ∀ h' tk k, Fr h₀ L h' m → News h₀ L h' news → Q (.int y k) { s with heap := h', toks := tk }) :
    wpAny (model prog w) A (call (.builtin "max") [.ref l]) Q E s := max_tup_i hh F N hm (by unfold Mx3 at e; rw [e]; exact h)
theorem min_tup_x {a b c y : Int} {t u x : Tok} {l : Addr} {h₀ : Heap} {L : Addr} {m : Str → Option Value} {news : List (Addr × Obj)} (hh : A.handled = none) (F : Fr h₀ L s.heap m) (N : News h₀ L s.heap news)
    (hm : (l, ({ cls := .type "tuple", data := .seq #[.int a t, .int b u, .int c x] } : Obj)) ∈ news) (e : Mn3 a b c y)
    (h : ∀ h' tk k, Fr h₀ L h' m → News h₀ L h' news → Q (.int y k) { s with heap := h', toks := tk }) :
    wpAny (model prog w) A (call (.builtin "min") [.ref l]) Q E s := min_tup_i hh F N hm (by unfold Mn3 at e; rw [e]; exact h)
theorem min_two_x {a b y : Int} {t u : Tok} {h₀ : Heap} {L : Addr} {m : Str → Option Value} {news : List (Addr × Obj)} (hh : A.handled = none) (F : Fr h₀ L s.heap m) (N : News h₀ L s.heap news) (e : Mn2 a b y)
    (h : ∀ h' tk k, Fr h₀ L h' m → News h₀ L h' news → Q (.int y k) { s with heap := h', toks := tk }) :
    wpAny (model prog w) A (call (.builtin "min") [.int a t, .int b u]) Q E s :=
  Flt.min_two_num hh (.int _ _) (.int _ _) fun h' tk kp => by
    unfold Mn2 at e
    unfold Flt.ltV
    by_cases hc : b < a
    · rw [if_pos (by simpa using hc), show b = y by omega]; exact h _ _ _ (F.grownK kp) (N.grown kp)
    · rw [if_neg (by simpa using hc), show a = y by omega]; exact h _ _ _ (F.grownK kp) (N.grown kp)
end
end
section
open PySem PySem.W PySem.Calls PyProof.Rows
theorem eq_tup_z {prog : Program} {w w' : World} {A : Around} {E : Value → Shared → Prop} {s : Shared} {h₀ : Heap} {L p q : Addr} {m : Str → Option Value} {news : List (Addr × Obj)} {x1 x2 x3 y1 y2 y3 : UInt64} {t1 t2 t3 u1 u2 u3 : Tok} {Q : Value → Shared → Prop} (F : Fr h₀ L s.heap m) (N : News h₀ L s.heap news) (X : (hd01.heap_39 w'.params).In h₀)
    (hp : (p, tup [.float x1 t1, .float x2 t2, .float x3 t3]) ∈ news) (hq : (q, tup [.float y1 u1, .float y2 u2, .float y3 u3]) ∈ news)
    (e1 : feq x1 y1 = true) (e2 : feq x2 y2 = true) (e3 : feq x3 y3 = true) (n1 : NZ t1) (n2 : NZ t2) (n3 : NZ t3) (k1 : NZ u1) (k2 : NZ u2) (k3 : NZ u3)
    (hu : A.units < cLine) (h : Q (.bool true) s) : wpAny (model prog w) A (compareOp .Eq (.ref p) (.ref q)) Q E s :=
  eq_tup_w F N X hp hq e1 e2 e3 n1 n2 n3 k1 k2 k3 hu h
end
end
section
open PySem PySem.W PyProof.Rows
set_option maxRecDepth 100000
section
set_option maxHeartbeats 8000000 in
theorem colour_ok {w : World} {mean : ExcName → Option Value} {mg mb : Str → Option Value} (p : Addr) (r g b top : Int) (tr tg tb tt : Tok) (hr0 : 0 ≤ r) (hr1 : r ≤ top) (hg0 : 0 ≤ g) (hg1 : g ≤ top) (hb0 : 0 ≤ b) (hb1 : b ≤ top) (ht0 : 0 < top) (ht1 : top ≤ 256)
   (mx mn md : Int) (eX : Mx3 r g b mx) (eN : Mn3 r g b mn) (eMd : Mn2 (mx + mn) (2 * top - (mx + mn)) md) (hmn0 : 0 ≤ mn) (hmm : mn ≤ mx) (hmx : mx ≤ top)
   (R G B GT H S V Lt D Y I Qc A1 A2 A3 P1 P2 P3 C1 C2 C3 : UInt64)
   (eR : sh r top = R)
   (eG : sh g top = G)
   (eB : sh b top = B)
   (eM : sh mx top = GT)
   (eH : hueOf R G B = H)
   (eS : satV R G B = S)
   (eV : fmax3 R G B = V)
   (eL : light R G B = Lt)
   (eD : satL R G B = D)
   (eY : yiqY R G B = Y)
   (eI : yiqI R G B = I)
   (eQ : yiqQ R G B = Qc)
   (eA1 : hsvR H S V = A1)
   (eA2 : hsvG H S V = A2)
   (eA3 : hsvB H S V = A3)
   (eP1 : hlsR H Lt D = P1)
   (eP2 : hlsG H Lt D = P2)
   (eP3 : hlsB H Lt D = P3)
   (eC1 : yR Y I Qc = C1)
   (eC2 : yG Y I Qc = C2)
   (eC3 : yB Y I Qc = C3)
   (z1 : grey R G B = false → ¬ Float64.isZero (fmax3 R G B) = true ∧ ¬ Float64.isZero (rg R G B) = true)
   (z2 : grey R G B = false → ¬ Float64.isZero (rg R G B) = true ∧ (fle (light R G B) cHalf = true → ¬ Float64.isZero (Float64.add (fmax3 R G B) (fmin3 R G B)) = true) ∧ (fle (light R G B) cHalf = false → ¬ Float64.isZero (Float64.sub (Float64.sub c2 (fmax3 R G B)) (fmin3 R G B)) = true))
   (z3 : feq S 0 = false → Float64.isFinite (Float64.mul H c6) = true ∧ (sec H).natAbs < 2 ^ 1024 - 2 ^ 970)
   (f4 : Is Lt (mx + mn) (2 * top)) (f5 : Is Y (3000 * r + 5900 * g + 1100 * b) (10000 * top)) (f6 : Is I (5990 * r - 2773 * g - 3217 * b) (10000 * top)) (f7 : Is Qc (2130 * r - 5251 * g + 3121 * b) (10000 * top))
   (gA1 : Is A1 r top) (gA2 : Is A2 g top) (gA3 : Is A3 b top) (gP1 : Is P1 r top) (gP2 : Is P2 g top) (gP3 : Is P3 b top) (gC1 : Is C1 r top) (gC2 : Is C2 g top) (gC3 : Is C3 b top)
   (s1 : mx - mn ≠ 0 → Is H (placeOf r g b (mx - mn)) (6 * (mx - mn))) (s2 : mx - mn ≠ 0 → Is S (mx - mn) mx) (s3 : mx - mn ≠ 0 → Is D (mx - mn) md)
   (u0 : mx - mn = 0 → feq H 0 = true) (u1 : mx - mn = 0 → feq S 0 = true) (u2 : mx - mn = 0 → feq D 0 = true) (u3 : mx - mn = 0 → feq Lt V = true) (u4 : mx - mn = 0 → feq A1 R = true) (u5 : mx - mn = 0 → feq A2 G = true) (u6 : mx - mn = 0 → feq A3 B = true) (u7 : mx - mn = 0 → feq P1 R = true) (u8 : mx - mn = 0 → feq P2 G = true) (u9 : mx - mn = 0 → feq P3 B = true)
   (v1 : feq V GT = true) (v2 : feq H H = true) (v3 : feq (fmax3 A1 A2 A3) V = true) :
   ConT 4 w mean mg mb 87 [.ref p, .int top tt] p (tup [.int r tr, .int g tg, .int b tb]) (fun t => .bool true) := by
  k_with_none
  k_with "call builtin:max" => ((with_reducible show wpAny _ _ (call _ [Value.float _ _, Value.float _ _, Value.float _ _]) _ _ _); (rename News _ _ _ _ => N'); (rename Fr _ _ _ _ => F'); refine max_three_n (by assumption) (by assumption) (by assumption) rfl F' N' ?_; clear N'; intro _ _ _ _ _ _)
  k_with "call builtin:min" => ((with_reducible show wpAny _ _ (call _ [Value.float _ _, Value.float _ _, Value.float _ _]) _ _ _); (rename News _ _ _ _ => N'); (rename Fr _ _ _ _ => F'); refine min_three_n (by assumption) (by assumption) (by assumption) rfl F' N' ?_; clear N'; intro _ _ _ _ _ _)
  k_with "k_room" => ktr_room
  k_with "execs cons" => (k_here; (first | (with_reducible show wpAny _ _ _ _ _ (Shared.mk _ _ _ (HAdd.hAdd _ _) _)) | (with_reducible show wpAny _ _ _ _ _ (Shared.mk _ _ _ (Shared.toks _) _))); refine genTok ?_; intro tk')
  k_with "execs nil" => (k_here; (first | (with_reducible show wpAny _ _ _ _ _ (Shared.mk _ _ _ (HAdd.hAdd _ _) _)) | (with_reducible show wpAny _ _ _ _ _ (Shared.mk _ _ _ (Shared.toks _) _))); refine genTok ?_; intro tk')
  k_with "k_ne" => (refine neN ?_; (try dsimp only); first | (with_reducible assumption) | (with_reducible exact Ne.symm (by assumption)) | (with_reducible exact Nat.ne_of_lt (by assumption)) | (with_reducible exact Nat.ne_of_gt (by assumption)) | (with_reducible exact Nat.ne_of_lt (ltAll (by assumption) (by k_dflt k_mem))) | (with_reducible exact Nat.ne_of_gt (ltAll (by assumption) (by k_dflt k_mem))) | (with_reducible exact Nat.ne_of_lt (ltAllS (by assumption) (by k_dflt k_mem))) | (with_reducible exact Nat.ne_of_gt (ltAllS (by assumption) (by k_dflt k_mem))) | (with_reducible exact Nat.ne_of_gt (ltAllSS (by assumption) (by k_dflt k_mem))) | (with_reducible exact Nat.ne_of_lt (ltAllSS (by assumption) (by k_dflt k_mem))) | (with_reducible exact Nat.ne_of_gt (ltAllSSS (by assumption) (by k_dflt k_mem))) | (with_reducible exact Nat.ne_of_lt (ltAllSSS (by assumption) (by k_dflt k_mem))) | (with_reducible exact Nat.ne_of_lt (ltVia (by assumption) (by assumption) (by k_dflt k_mem))) | (with_reducible exact Nat.ne_of_gt (ltVia (by assumption) (by assumption) (by k_dflt k_mem))) | (with_reducible exact off1 (by assumption) (by k_dflt k_mem)) | (with_reducible exact Ne.symm (off1 (by assumption) (by k_dflt k_mem))) | (with_reducible exact offI (by assumption) (by k_dflt k_mem)) | (with_reducible exact offC (by assumption) (by k_dflt k_mem)) | (with_reducible exact offD (by assumption) (by k_dflt k_mem)) | (with_reducible exact Ne.symm (offI (by assumption) (by k_dflt k_mem))) | (with_reducible exact Ne.symm (offC (by assumption) (by k_dflt k_mem))) | (with_reducible exact Ne.symm (offD (by assumption) (by k_dflt k_mem))))
  k_with "k_lt" => skip
  k_with "k_all" => (with_reducible exact neAll (by assumption))
  k_with "CompEnd" => (k_dflt (refine compEnd_same (by with_reducible assumption) (by with_reducible assumption) (by with_reducible assumption) (by first | lcg_src | assumption) ?_))
  k_with "CompRest" => (with_unfolding_all first | (refine LCg.CompRest.succ ?_; intro v' I' oI' C' oC' D' m' h' tk' E' hv' hC' hx' F' N' off' ne'; lcg_open hv'; (have e1' := And.left ne'; have e2' := And.left (And.right ne'); have e3' := And.right (And.right ne'))) | refine LCg.CompRest.zero ?_)
  k_with "execs cons" => (k_here; (with_reducible show wpAny _ _ _ _ _ (Shared.mk _ _ _ (HAdd.hAdd _ 1) _)); refine genTokZ ?_; intro tk' ntk')
  k_with "execs nil" => (k_here; (with_reducible show wpAny _ _ _ _ _ (Shared.mk _ _ _ (HAdd.hAdd _ 1) _)); refine genTokZ ?_; intro tk' ntk')
  k_with "CompSrc" => (k_here; k_dflt (refine LCg.CompSrc.ledger (by rfl) (by k_asm) (by k_asm) (by k_mem) (by first | size_fits | exact Nat.le_of_ble_eq_true rfl) ?_; intro g'; lcg_lit))
  k_with "size_fits" => (k_dflt exact Nat.le_of_ble_eq_true rfl)
  k_with "call ref" => (k_here; k_dflt (show wpAny _ _ (call (Value.ref 56) _) _ _ _); k_dflt (refine' hsv_k (by first | (with_reducible assumption) | exact nz_succ _) (by first | (with_reducible assumption) | exact nz_succ _) (by first | (with_reducible assumption) | exact nz_succ _) (by with_reducible assumption) (by with_reducible assumption) (by with_reducible assumption) (by with_reducible assumption) _ _ _ _ _ _ _ _ _ _ _ _ _ _ _ _ _ _ (by k_asm) (by k_asm) (by k_asm) (by k_asm) (by k_asm) (by first | exact rfl | assumption) (by ktr_room) (by ktr_units) _; k_whole); intro p' _ _ _ h' _ n1' n2' n3' F' N' l1; (try dsimp only); (try k_fold); (try k_lt l1))
  k_with "call ref" => (k_here; k_dflt (show wpAny _ _ (call (Value.ref 35) _) _ _ _); k_dflt (refine' hls_k (by first | (with_reducible assumption) | exact nz_succ _) (by first | (with_reducible assumption) | exact nz_succ _) (by first | (with_reducible assumption) | exact nz_succ _) (by with_reducible assumption) (by with_reducible assumption) (by with_reducible assumption) (by with_reducible assumption) _ _ _ _ _ _ _ _ _ _ _ _ _ _ _ _ _ _ (by k_asm) (by k_asm) (by k_asm) (by k_asm) (by k_asm) (by first | exact rfl | assumption) (by ktr_room) (by ktr_units) _; k_whole); intro p' _ _ _ h' _ n1' n2' n3' F' N' l1; (try dsimp only); (try k_fold); (try k_lt l1))
  k_with "call ref" => (k_here; k_dflt (show wpAny _ _ (call (Value.ref 21) _) _ _ _); k_dflt (refine' yiq_k (by with_reducible assumption) (by with_reducible assumption) (by with_reducible assumption) _ _ _ _ _ _ _ _ _ _ _ _ _ _ _ _ _ _ (by k_asm) (by k_asm) (by k_asm) (by k_asm) (by k_asm) (by first | exact rfl | assumption) (by ktr_room) (by ktr_units) _; k_whole); intro p' _ _ _ h' _ F' N' l1; (try dsimp only); (try k_fold); (try k_lt l1))
  k_with "call ref" => (k_here; k_dflt (show wpAny _ _ (call (Value.ref 63) _) _ _ _); k_dflt (refine' hr_k (by first | (with_reducible assumption) | exact nz_succ _) (by with_reducible assumption) (by with_reducible assumption) (by with_reducible assumption) (by with_reducible assumption) _ _ _ _ _ _ _ _ _ _ _ _ _ _ _ _ _ _ (by k_asm) (by k_asm) (by k_asm) (by k_asm) (by k_asm) (by first | exact rfl | assumption) (by ktr_room) (by ktr_units) _; k_whole); intro p' _ _ _ h' _ n1' n2' n3' F' N' l1; (try dsimp only); (try k_fold); (try k_lt l1))
  k_with "call ref" => (k_here; k_dflt (show wpAny _ _ (call (Value.ref 42) _) _ _ _); k_dflt (refine' hlr_k (by first | (with_reducible assumption) | exact nz_succ _) (by with_reducible assumption) (by with_reducible assumption) (by with_reducible assumption) _ _ _ _ _ _ _ _ _ _ _ _ _ _ _ _ _ _ (by k_asm) (by k_asm) (by k_asm) (by k_asm) (by k_asm) (by first | exact rfl | assumption) (by ktr_room) (by ktr_units) _; k_whole); intro p' _ _ _ h' _ n1' n2' n3' F' N' l1; (try dsimp only); (try k_fold); (try k_lt l1))
  k_with "call ref" => (k_here; k_dflt (show wpAny _ _ (call (Value.ref 28) _) _ _ _); k_dflt (refine' yr_k (by with_reducible assumption) (by with_reducible assumption) (by with_reducible assumption) _ _ _ _ _ _ _ _ _ _ _ _ _ _ _ _ _ _ (by k_asm) (by k_asm) (by k_asm) (by k_asm) (by k_asm) (by first | exact rfl | assumption) (by ktr_room) (by ktr_units) _; k_whole); intro p' _ _ _ h' _ F' N' l1; (try dsimp only); (try k_fold); (try k_lt l1))
  k_with "call ref" => (k_here; k_dflt (show wpAny _ _ (call (Value.ref 70) _) _ _ _); k_dflt (refine' is_k (by first | (with_reducible assumption) | exact (by with_reducible assumption : (_ ≠ (0 : Int) → Is _ _ _)) (by with_reducible assumption)) _ _ _ _ _ _ _ _ _ _ _ _ _ _ _ _ _ _ (by k_asm) (by k_asm) (by k_asm) (by k_asm) (by k_asm) (by first | exact rfl | assumption) (by ktr_room) (by ktr_units) _; k_whole); intro _ _ _ _; (try dsimp only); (try k_fold))
  k_with "call ref" => (k_here; k_dflt (show wpAny _ _ (call (Value.ref 75) _) _ _ _); k_dflt (refine' back_w (by k_asm) (by k_asm) (by k_mem) (by k_mem) (by first | (with_reducible assumption) | omega) (by first | (with_reducible assumption) | omega) (by first | (with_reducible assumption) | omega) (by first | (with_reducible assumption) | omega) (by first | (with_reducible assumption) | omega) (by first | (with_reducible assumption) | omega) (by first | (with_reducible assumption) | omega) (by first | (with_reducible assumption) | omega) (by with_reducible assumption) (by with_reducible assumption) (by with_reducible assumption) (by k_asm) (by k_asm) (by k_asm) (by first | exact rfl | assumption) (by ktr_room) (by ktr_units) _; k_whole); intro _ _ _ _; (try dsimp only); (try k_fold))
  k_with "call builtin:max" => (k_here; (with_reducible show wpAny _ _ (call (Value.builtin _) [Value.ref _]) _ _ _); k_dflt (first | refine max_tup_x (by with_unfolding_all rfl) (by k_asm) (by k_asm) (by k_mem) (by with_reducible assumption) ?_ | refine max_tup_f (by with_unfolding_all rfl) (by k_asm) (by k_asm) (by k_mem) ?_); intro _ _ _ _ _; (try dsimp only); (try k_fold))
  k_with "call builtin:min" => (k_here; (with_reducible show wpAny _ _ (call (Value.builtin _) [Value.ref _]) _ _ _); k_dflt (refine min_tup_x (by with_unfolding_all rfl) (by k_asm) (by k_asm) (by k_mem) (by with_reducible assumption) ?_); intro _ _ _ _ _; (try dsimp only); (try k_fold))
  k_with "call builtin:min" => (k_here; (with_reducible show wpAny _ _ (call (Value.builtin _) [Value.int _ _, Value.int _ _]) _ _ _); k_dflt (refine min_two_x (by with_unfolding_all rfl) (by k_asm) (by k_asm) (by with_reducible assumption) ?_); intro _ _ _ _ _; (try dsimp only); (try k_fold))
  k_with "ite" => ((with_reducible refine ite_sp ?_ ?_) <;> intro hsp')
  k_with "binaryOp Div int int" => (k_dflt (refine div_sh rfl (by omega) (by omega) (by with_reducible assumption) ?_))
  k_with "inplaceOp Add ref" => (k_here; (with_reducible show wpAny _ _ (inplaceOp _ (Value.ref _) (Value.ref _)) _ _ _); k_dflt (refine' iadd_list (by k_asm) (by k_asm) (by k_mem) (by k_upd) (by kl_lit) (by kl_some) (by kl_no) (by kl_room) (by kl_room) _); kl_rest)
  k_with "FinE" => (unfold LCg.FinE; intro D' h' tk' F' N' o1'; (try simp only [List.nil_append, List.cons_append] at N'); (try dsimp only))
  k_with "call ref" => (k_here; k_dflt (show wpAny _ _ (call (Value.ref 82) _) _ _ _); k_dflt (refine' place_w (pre := [_, _, _, _, _, _, _, _, _, _]) (by k_asm) (by with_reducible assumption) (by k_asm) (by k_mem) (by k_all) (by k_mem) (by first | (with_reducible assumption) | exact ltAll (by with_reducible assumption) (by k_mem)) (by with_reducible assumption) (by with_reducible assumption) (by k_asm) (by k_asm) (by k_asm) (by k_asm) (by first | exact rfl | assumption) (by ktr_room) (by ktr_units) _; k_whole); intro t9 h9 tk9 ps9 c9 oc9 F' N' tb9 ne9 hn9; (try simp only [List.cons_append, List.nil_append] at N'); (try dsimp only); (try k_fold))
  k_with "call builtin:list.append" => (k_here; (fail_if_success (with_reducible show wpAny _ _ (call (Value.builtin _) [_, _]) _ _ _)); (k_dflt (show wpAny _ _ (call (Value.builtin "list.append") [_, _]) _ _ _)); walk_at "call builtin:list.append")
  k_with "compareOp Eq ref ref" => (k_here; (with_reducible show wpAny _ _ (compareOp CmpOp.Eq (Value.ref _) (Value.ref _)) _ _ _); with_reducible refine' eq_tup_z (by k_asm) (by k_asm) (by k_asm) (by k_dflt k_mem) (by k_dflt k_mem) (by exact (by with_reducible assumption : (_ = (0 : Int) → feq _ _ = true)) (by with_reducible assumption)) (by exact (by with_reducible assumption : (_ = (0 : Int) → feq _ _ = true)) (by with_reducible assumption)) (by exact (by with_reducible assumption : (_ = (0 : Int) → feq _ _ = true)) (by with_reducible assumption)) (by first | (with_reducible assumption) | exact nz_succ _) (by first | (with_reducible assumption) | exact nz_succ _) (by first | (with_reducible assumption) | exact nz_succ _) (by first | (with_reducible assumption) | exact nz_succ _) (by first | (with_reducible assumption) | exact nz_succ _) (by first | (with_reducible assumption) | exact nz_succ _) (by exact units_deeper (by with_reducible assumption)) _; k_whole; (try dsimp only); (try k_fold))
  k_with "execs cons" => (k_here; (first | (with_reducible rename (News _ _ _ ((_, tup [Value.float H _, Value.float S _, Value.float V _]) :: _)) => N9) | (with_reducible rename (News _ _ _ ((_, tup [Value.float H _, Value.float Lt _, Value.float D _]) :: _)) => N9) | (with_reducible rename (News _ _ _ ((_, tup [Value.float Y _, Value.float I _, Value.float Qc _]) :: _)) => N9) | (with_reducible rename (News _ _ _ ((_, Obj.mk _ _ (Data.seq #[Value.int mx _, Value.int mn _]) _) :: _)) => N9) | (with_reducible rename (News _ _ _ ((_, Obj.mk _ _ (Data.seq #[Value.int (mx - mn) _, Value.int (mx + mn) _]) _) :: _)) => N9)); (replace N9 := drop1 N9); walk_at "execs cons")
  k_with "execs cons" => (k_here; (rename News _ _ _ _ => N9); dsimp only at N9; walk_at "execs cons")
  k_with "execs cons" => (k_here; (rename Fr _ _ _ _ => F9); dsimp only at F9; walk_at "execs cons")
  intro dp un gd cn cs a ccd cl outer A₀ base h₀ L m s Q E ps c0 oc B' F' X' N' T' hk hd hu p77 C77 tab hret
  have N0 := N'
  have hr2 : r ≤ 2 ^ 20 := by omega
  have hg2 : g ≤ 2 ^ 20 := by omega
  have hb2 : b ≤ 2 ^ 20 := by omega
  have ht2 : top ≤ 2 ^ 20 := by omega
  w_on
  revert X'; k_fill; intro X'
  refine wpAny_call ?_
  k_dflt (refine' code_defCG ?k1 ?k2 ?k3 ?k4 ?k5 ?kA ?kF ?kK ?k6 ?k7 ?k8 ?k9 ?kB ?kD ?_ ?c2 ?c3 ?c4; (case kA => exact rfl); (case kF => exact rfl); (case kK => assumption); (case k1 => k_asm); (case k2 => k_asm); (case k3 => k_asm); (case k4 => k_asm); (case k5 => k_asm); (case k6 => k_is); (case k7 => k_is); (case k8 => ktr_room); (case k9 => first | exact BindsTo.of_eq rfl | exact binds_K (by k_in) rfl (by k_is) rfl rfl rfl | fail "k_enter: no rule for these arguments"); (case kB => exact rfl); (case kD => decide +kernel); (case c2 => exact rfl); (case c3 => exact rfl); (case c4 => exact rfl); k_whole; intro g' L' h' tk' cells' FG' F' N' Y' B' X' T' l1 GS hL; (try k_lt l1); (have hY := CellsAre.two Y'; obtain ⟨oc0, oc1, hE', dc0, dc1⟩ := hY; subst hE'; clear Y'); (try simp only [List.cons_append, List.nil_append] at N'); (try dsimp only); (try k_lift B'); (try k_fold))
  replace F' : Fr g' L' h' (fun _ => none) := F'
  replace dc0 : oc0.data = .cell (some (.int top tt)) := dc0
  replace dc1 : oc1.data = .cell (some (.ref p)) := dc1
  have w1 : (Float64.cmp V GT == some Ordering.eq) = true := v1
  have w2 : (Float64.cmp H H == some Ordering.eq) = true := v2
  have w3 : (Float64.cmp (fmax3 A1 A2 A3) V == some Ordering.eq) = true := v3
  k_steps
  all_goals (refine' ret77_use (t := 0) (v := fun _ => .bool true) hret N0 GS (by assumption) (by assumption) (by assumption) (by k_mem) (by k_mem) (by k_mem) (by k_mem) (by first | exact Or.inl rfl | exact hn_of (by assumption) hL) _)
  all_goals (refine congrArg Value.bool ?_)
  all_goals first
    | (simp only [w1, w2, w3, Bool.true_and, Bool.and_true, Bool.and_self]; done)
    | ((have w4 : (Float64.cmp Lt V == some Ordering.eq) = true := u3 (by assumption)); simp only [w1, w2, w3, w4, Bool.true_and, Bool.and_true, Bool.and_self]; done)
end
end
section
section
open PySem PySem.Flt PySem.Float64
theorem grid (E : Nat) : ∀ j, j ≤ 2 ^ 53 → ∃ t, V t = j * 2 ^ E := by
  induction E with
  | zero => intro j hj; exact ⟨0 * 2 ^ 52 + j, V_at hj (Or.inr rfl)⟩
  | succ E ih =>
    intro j hj
    by_cases h : 2 ^ 52 ≤ j
    · exact ⟨(E + 1) * 2 ^ 52 + j, V_at hj (Or.inl h)⟩
    · obtain ⟨t, ht⟩ := ih (2 * j) (by omega)
      exact ⟨t, by rw [ht, Nat.pow_succ]; ac_rfl⟩
noncomputable def Fin (x : UInt64) : Prop := ∃ a m e, decode x = .fin a m e
theorem Fin.finite {x : UInt64} (h : Fin x) : isFinite x = true := by
  obtain ⟨a, m, e, h⟩ := h; unfold isFinite; rw [h]
theorem mant_lt {x : UInt64} {a : Bool} {m : Nat} {e : Int} (h : decode x = .fin a m e) : m < 2 ^ 53 := by
  unfold decode at h
  simp only at h
  split at h
  · split at h <;> cases h
  · split at h
    · cases h; omega
    · cases h; omega
theorem fin_mag {x : UInt64} (h : Fin x) : ∃ t, (val x).natAbs = V t := by
  obtain ⟨a, m, e, h⟩ := h
  obtain ⟨t, ht⟩ := grid (e + 1074).toNat m (Nat.le_of_lt (mant_lt h))
  exact ⟨t, by rw [val_natAbs h, ht]⟩
/-- r is w / D rounded (in units of 2 ^ -1074) -/
structure RI (r : UInt64) (w : Int) (D : Nat) : Prop where
  fin : Fin r
  up : ∀ y, Fin y → w ≤ (D : Int) * val y → val r ≤ val y
  dn : ∀ y, Fin y → (D : Int) * val y ≤ w → val y ≤ val r
  err : ∀ E, w.natAbs ≤ D * 2 ^ (53 + E) → 2 * ((D : Int) * val r - w) ≤ D * 2 ^ E ∧ 2 * (w - (D : Int) * val r) ≤ D * 2 ^ E
theorem dist_le {a b : Nat} : dist a b = ((b : Int) - a).natAbs := by unfold dist; omega
theorem near {M : Nat} (hM : 0 < M) {W : Nat} (h : W ≤ M * 2 ^ 53) : ∃ j, j ≤ 2 ^ 53 ∧ 2 * dist W (M * j) ≤ M := by
  have e := Nat.div_add_mod W M
  have l := Nat.mod_lt W hM
  have hq : W / M ≤ 2 ^ 53 := Nat.div_le_of_le_mul h
  generalize W / M = q at *
  generalize W % M = s at *
  by_cases hs : 2 * s ≤ M
  · exact ⟨q, hq, by unfold dist; omega⟩
  · refine ⟨q + 1, ?_, ?_⟩
    · rcases Nat.lt_or_ge q (2 ^ 53) with h1 | h1
      · exact h1
      · have : M * 2 ^ 53 ≤ M * q := Nat.mul_le_mul_left _ h1
        omega
    · have e3 : M * (q + 1) = M * q + M := Nat.mul_succ M q
      rw [e3]; unfold dist; omega
theorem abs_neg1 {a b c : Nat} (h : ((a : Int) - c).natAbs ≤ ((b : Int) - c).natAbs) : ((a : Int) - c).natAbs ≤ (-(b : Int) - c).natAbs := by omega
theorem neg_sub_neg' (a c : Int) : (-a - -c).natAbs = (a - c).natAbs := by rw [show -a - -c = -(a - c) by omega, Int.natAbs_neg]
theorem sub_neg' (b c : Int) : (b - -c).natAbs = (-b - c).natAbs := by rw [show -b - c = -(b - -c) by omega, Int.natAbs_neg]
theorem right_ri {r : UInt64} {neg : Bool} {W D : Nat} (h : Right r neg W D) (hD : 0 < D) (hs : W ≤ D * 2 ^ 1974) : RI r (sgn neg W) D := by
  obtain ⟨t, hr, hle, hov, hn⟩ := h
  have hlt : t < infMag := by
    rcases Nat.lt_or_ge t infMag with h1 | h1
    · exact h1
    · exfalso
      have h2 := hov.mp (Nat.le_antisymm hle h1)
      have key : ∀ a b : Nat, 2 * a < b → 2 * (D * a) < D * b := fun a b h => by
        calc 2 * (D * a) = D * (2 * a) := by ac_rfl
          _ < D * b := Nat.mul_lt_mul_of_pos_left h hD
      have h3 := key (2 ^ 1974) ((2 ^ 54 - 1) * 2 ^ 2045) (by decide +kernel)
      have h4 := Nat.le_trans h2 (Nat.mul_le_mul_left 2 hs)
      exact absurd h3 (Nat.not_lt.mpr h4)
  obtain ⟨m, e, hd, _⟩ := decode_pack neg hlt
  have hfin : Fin r := ⟨neg, m, e, hr ▸ hd⟩
  have hval : val r = sgn neg (V t) := by rw [hr, val_pack neg hlt]
  have hn' := hn hlt
  have eD : ∀ z : Nat, (D : Int) * (z : Int) = ((D * z : Nat) : Int) := fun z => by simp
  have hself : ∀ y, Fin y → ((D : Int) * val r - sgn neg W).natAbs ≤ ((D : Int) * val y - sgn neg W).natAbs := by
    intro y hy
    obtain ⟨t', ht'⟩ := fin_mag hy
    have h1 := (hn' t').1
    rw [dist_le, dist_le] at h1
    have h2 := eD (V t)
    have h3 := eD (V t')
    have h4 : (D : Int) * val y = ((D * V t' : Nat) : Int) ∨ (D : Int) * val y = -((D * V t' : Nat) : Int) := by
      rcases Int.natAbs_eq (val y) with e | e
      · left; rw [e, ht', h3]
      · right; rw [e, ht', Int.mul_neg, h3]
    rw [hval]
    unfold sgn
    generalize hA : D * V t = a at *
    generalize hB : D * V t' = b at *
    cases neg
    · simp only [Bool.false_eq_true, if_false, h2]
      rcases h4 with h4 | h4 <;> rw [h4]
      · exact h1
      · exact abs_neg1 h1
    · simp only [if_true, Int.mul_neg, h2]
      rw [neg_sub_neg']
      rcases h4 with h4 | h4 <;> rw [h4]
      · rw [sub_neg']; exact abs_neg1 h1
      · rw [neg_sub_neg']; exact h1
  have hDp : (0 : Int) < D := by omega
  refine ⟨hfin, fun y hy hw => ?_, fun y hy hw => ?_, fun E hE => ?_⟩
  · have h1 := hself y hy
    have h2 : (D : Int) * val r ≤ D * val y := by omega
    exact Int.le_of_mul_le_mul_left h2 hDp
  · have h1 := hself y hy
    have h2 : (D : Int) * val y ≤ D * val r := by omega
    exact Int.le_of_mul_le_mul_left h2 hDp
  · have hW : (sgn neg W).natAbs = W := sgn_natAbs neg W
    rw [hW] at hE
    have hM : 0 < D * 2 ^ E := Nat.mul_pos hD (Nat.two_pow_pos _)
    obtain ⟨j, hj, hdj⟩ := near hM (W := W) (by rw [Nat.mul_assoc, ← Nat.pow_add, Nat.add_comm]; exact hE)
    obtain ⟨t', ht'⟩ := grid E j hj
    have h1 := (hn' t').1
    have e2 : D * V t' = D * 2 ^ E * j := by rw [ht']; ac_rfl
    rw [e2] at h1
    have h2 : 2 * dist W (D * V t) ≤ D * 2 ^ E := by omega
    rw [dist_le] at h2
    have h3 := eD (V t)
    have h5 : ((D * 2 ^ E : Nat) : Int) = (D : Int) * 2 ^ E := by simp
    rw [hval, ← h5]
    unfold sgn
    cases neg
    · simp only [Bool.false_eq_true, if_false, h3]; omega
    · simp only [if_true, Int.mul_neg, h3]; omega
end
end
section
section
open PySem PySem.Flt PySem.Float64
@[irreducible] def KN : Nat := 2 ^ 1074
theorem KN_eq : KN = 2 ^ 1074 := by unfold KN; rfl
theorem KN_pos : 0 < KN := by rw [KN_eq]; exact Nat.two_pow_pos _
@[irreducible] def ku : Rat := 1 / (KN : Rat)
theorem KN_posR : (0 : Rat) < (KN : Rat) := Rat.natCast_pos.mpr KN_pos
theorem ku_mul : ku * (KN : Rat) = 1 := by
  have := KN_posR
  unfold ku; generalize (KN : Rat) = k at *; grind
theorem ku_pos : 0 < ku := by
  unfold ku
  have h := KN_posR
  generalize (KN : Rat) = k at *
  rw [Rat.div_def, Rat.one_mul]
  exact Rat.inv_pos.mpr h
/-- the value of a finite float -/
noncomputable def fv (x : UInt64) : Rat := (val x : Rat) * ku
theorem fv_le {x y : UInt64} : fv x ≤ fv y ↔ val x ≤ val y := by
  unfold fv
  rw [← Rat.intCast_le_intCast]
  have := ku_pos
  constructor
  · intro h; exact Rat.le_of_mul_le_mul_right h this
  · intro h; exact Rat.mul_le_mul_of_nonneg_right h (Rat.le_of_lt this)
structure Rnd (X : Rat) (r : UInt64) : Prop where
  fin : Fin r
  up : ∀ y, Fin y → X ≤ fv y → fv r ≤ fv y
  dn : ∀ y, Fin y → fv y ≤ X → fv y ≤ fv r
  err : ∀ e : Nat, -(2 ^ e : Rat) ≤ X → X ≤ 2 ^ e → fv r - X ≤ 2 ^ e / 2 ^ 54 ∧ X - fv r ≤ 2 ^ e / 2 ^ 54
theorem cast_pow (e : Nat) : ((2 ^ e : Nat) : Rat) = (2 : Rat) ^ e := by
  induction e with
  | zero => rfl
  | succ n ih => rw [Nat.pow_succ, Rat.natCast_mul, ih, Rat.pow_succ]; rfl
theorem alg1 {v u d k : Rat} (h : u * k = 1) : v * u * (d * k) = d * v := by grind
theorem pow_add2 (a b : Nat) : (2 : Rat) ^ (a + b) = 2 ^ a * 2 ^ b := by rw [← cast_pow, ← cast_pow, ← cast_pow, Nat.pow_add, Rat.natCast_mul]
theorem alg2 {v u d k X q n : Rat} (hd : 0 < d) (hk : 0 < k) (h : u * k = 1) (b : 2 * (d * v - X * (d * k)) ≤ d * n) (hn : n * 9007199254740992 = k * q) : v * u - X ≤ q / 18014398509481984 := by
  have hu : 0 < d * k := Rat.mul_pos hd hk
  have e1 : 2 * (d * v - X * (d * k)) = (v * u - X) * (2 * (d * k)) := by grind
  have e2 : d * n = q / 18014398509481984 * (2 * (d * k)) := by grind
  rw [e1, e2] at b
  exact Rat.le_of_mul_le_mul_right b (by grind)
theorem alg3 {v u d k X q n : Rat} (hd : 0 < d) (hk : 0 < k) (h : u * k = 1) (b : 2 * (X * (d * k) - d * v) ≤ d * n) (hn : n * 9007199254740992 = k * q) : X - v * u ≤ q / 18014398509481984 := by
  have hu : 0 < d * k := Rat.mul_pos hd hk
  have e1 : 2 * (X * (d * k) - d * v) = (X - v * u) * (2 * (d * k)) := by grind
  have e2 : d * n = q / 18014398509481984 * (2 * (d * k)) := by grind
  rw [e1, e2] at b
  exact Rat.le_of_mul_le_mul_right b (by grind)
theorem rnd_of {r : UInt64} {w : Int} {D : Nat} {X : Rat} (h : RI r w D) (hD : 0 < D) (hX : X * ((D : Rat) * (KN : Rat)) = (w : Rat)) : Rnd X r := by
  have hDp : (0 : Rat) < (D : Rat) := Rat.natCast_pos.mpr hD
  have hK := KN_posR
  have hku := ku_mul
  have hkp := ku_pos
  have hDK : (0 : Rat) < (D : Rat) * (KN : Rat) := Rat.mul_pos hDp hK
  have cst : ∀ z : Int, (((D : Int) * z : Int) : Rat) = (D : Rat) * (z : Rat) := fun z => by rw [Rat.intCast_mul]; rfl
  refine ⟨h.fin, fun y hy hle => fv_le.mpr (h.up y hy ?_), fun y hy hle => fv_le.mpr (h.dn y hy ?_), fun e h1 h2 => ?_⟩
  · rw [← Rat.intCast_le_intCast, ← hX, cst]
    have := Rat.mul_le_mul_of_nonneg_right hle (Rat.le_of_lt hDK)
    unfold fv at this
    rw [alg1 hku] at this
    exact this
  · rw [← Rat.intCast_le_intCast, ← hX, cst]
    have := Rat.mul_le_mul_of_nonneg_right hle (Rat.le_of_lt hDK)
    unfold fv at this
    rw [alg1 hku] at this
    exact this
  · have hpw : (2 : Rat) ^ (53 + (1021 + e)) = (KN : Rat) * 2 ^ e := by
      rw [KN_eq, cast_pow, ← pow_add2]; congr 1; omega
    have hw : w.natAbs ≤ D * 2 ^ (53 + (1021 + e)) := by
      have a1 : (w : Rat) ≤ (((D * 2 ^ (53 + (1021 + e)) : Nat) : Int) : Rat) := by
        rw [Rat.intCast_natCast, Rat.natCast_mul, cast_pow, hpw, ← hX]
        have := Rat.mul_le_mul_of_nonneg_right h2 (Rat.le_of_lt hDK)
        generalize (KN : Rat) = k at *
        generalize (2 : Rat) ^ e = q at *
        grind
      have a2 : ((-((D * 2 ^ (53 + (1021 + e)) : Nat) : Int) : Int) : Rat) ≤ (w : Rat) := by
        rw [Rat.intCast_neg, Rat.intCast_natCast, Rat.natCast_mul, cast_pow, hpw, ← hX]
        have := Rat.mul_le_mul_of_nonneg_right h1 (Rat.le_of_lt hDK)
        generalize (KN : Rat) = k at *
        generalize (2 : Rat) ^ e = q at *
        grind
      rw [Rat.intCast_le_intCast] at a1 a2
      omega
    obtain ⟨b1, b2⟩ := h.err (1021 + e) hw
    have hE : (2 : Rat) ^ (1021 + e) * 2 ^ 53 = (KN : Rat) * 2 ^ e := by
      rw [← hpw, ← pow_add2]; congr 1; omega
    have cE : (((D : Int) * 2 ^ (1021 + e) : Int) : Rat) = (D : Rat) * 2 ^ (1021 + e) := by
      rw [cst]; congr 1
      have : (((2 ^ (1021 + e) : Nat) : Int) : Rat) = (2 : Rat) ^ (1021 + e) := by rw [Rat.intCast_natCast, cast_pow]
      rw [← this]; simp
    rw [← Rat.intCast_le_intCast, cE, Rat.intCast_mul, Rat.intCast_sub, cst, ← hX] at b1 b2
    have e53 : (2 : Rat) ^ 53 = 9007199254740992 := by decide +kernel
    have e54 : (2 : Rat) ^ 54 = 18014398509481984 := by decide +kernel
    rw [e53] at hE
    rw [e54]
    exact ⟨alg2 hDp hK hku b1 hE, alg3 hDp hK hku b2 hE⟩
end
end
section
section
open PySem PySem.Flt PySem.Float64
theorem w_bound {w : Int} {D : Nat} {X : Rat} (hD : 0 < D) (hX : X * ((D : Rat) * (KN : Rat)) = (w : Rat)) (e : Nat) (h1 : -(2 ^ e : Rat) ≤ X) (h2 : X ≤ 2 ^ e) : w.natAbs ≤ D * 2 ^ (1074 + e) := by
  have hDp : (0 : Rat) < (D : Rat) := Rat.natCast_pos.mpr hD
  have hDK : (0 : Rat) < (D : Rat) * (KN : Rat) := Rat.mul_pos hDp KN_posR
  have hpw : (2 : Rat) ^ (1074 + e) = (KN : Rat) * 2 ^ e := by rw [KN_eq, cast_pow, ← pow_add2]
  have a1 : (w : Rat) ≤ (((D * 2 ^ (1074 + e) : Nat) : Int) : Rat) := by
    rw [Rat.intCast_natCast, Rat.natCast_mul, cast_pow, hpw, ← hX]
    have := Rat.mul_le_mul_of_nonneg_right h2 (Rat.le_of_lt hDK)
    generalize (KN : Rat) = k at *
    generalize (2 : Rat) ^ e = q at *
    grind
  have a2 : ((-((D * 2 ^ (1074 + e) : Nat) : Int) : Int) : Rat) ≤ (w : Rat) := by
    rw [Rat.intCast_neg, Rat.intCast_natCast, Rat.natCast_mul, cast_pow, hpw, ← hX]
    have := Rat.mul_le_mul_of_nonneg_right h1 (Rat.le_of_lt hDK)
    generalize (KN : Rat) = k at *
    generalize (2 : Rat) ^ e = q at *
    grind
  rw [Rat.intCast_le_intCast] at a1 a2
  omega
theorem sgn_self (S : Int) : sgn (decide (S < 0)) S.natAbs = S := by
  unfold sgn; by_cases h : S < 0 <;> simp [h] <;> omega
theorem ri_zero (b : Bool) : RI (zero b) 0 1 := by
  have hv : val (zero b) = 0 := by cases b <;> decide +kernel
  have hf : Fin (zero b) := by
    obtain ⟨m, e, h, _⟩ := decode_pack b (t := 0) (by decide +kernel)
    exact ⟨b, m, e, h⟩
  refine ⟨hf, fun y _ h => by rw [hv]; simpa using h, fun y _ h => by rw [hv]; simpa using h, fun E _ => ?_⟩
  rw [hv]
  have : (0 : Int) ≤ 2 ^ E := Int.le_of_lt (Int.pow_pos (by decide))
  simp; omega
noncomputable abbrev Big (X : Rat) : Prop := -(2 ^ 900 : Rat) ≤ X ∧ X ≤ 2 ^ 900
theorem rnd_right {r : UInt64} {neg : Bool} {W D : Nat} {X : Rat} (h : Right r neg W D) (hD : 0 < D) (hX : X * ((D : Rat) * (KN : Rat)) = ((sgn neg W : Int) : Rat)) (hb : Big X) : Rnd X r := by
  have h1 := w_bound hD hX 900 hb.1 hb.2
  rw [sgn_natAbs] at h1
  exact rnd_of (right_ri h hD h1) hD hX
theorem add_rnd {x y : UInt64} (hx : Fin x) (hy : Fin y) (hb : Big (fv x + fv y)) : Rnd (fv x + fv y) (add x y) := by
  obtain ⟨a, m, e, hx⟩ := hx
  obtain ⟨b, k, f, hy⟩ := hy
  have hX : (fv x + fv y) * (((1 : Nat) : Rat) * (KN : Rat)) = ((val x + val y : Int) : Rat) := by
    rw [Rat.intCast_add]; unfold fv
    have := ku_mul
    generalize (KN : Rat) = k at *
    show (_ : Rat) * (1 * k) = _
    grind
  obtain ⟨h0, h1⟩ := add_right hx hy
  by_cases hS : val x + val y = 0
  · rw [h0 hS]
    rw [hS] at hX
    exact rnd_of (ri_zero _) (by decide) hX
  · have := h1 hS
    refine rnd_right this (by decide) ?_ hb
    rw [sgn_self]; exact hX
theorem sub_rnd {x y : UInt64} (hx : Fin x) (hy : Fin y) (hb : Big (fv x - fv y)) : Rnd (fv x - fv y) (sub x y) := by
  obtain ⟨a, m, e, hx⟩ := hx
  obtain ⟨b, k, f, hy⟩ := hy
  have hX : (fv x - fv y) * (((1 : Nat) : Rat) * (KN : Rat)) = ((val x - val y : Int) : Rat) := by
    rw [Rat.intCast_sub]; unfold fv
    have := ku_mul
    generalize (KN : Rat) = k at *
    show (_ : Rat) * (1 * k) = _
    grind
  obtain ⟨h0, h1⟩ := sub_right hx hy
  by_cases hS : val x - val y = 0
  · rw [h0 hS]
    rw [hS] at hX
    exact rnd_of (ri_zero _) (by decide) hX
  · have := h1 hS
    refine rnd_right this (by decide) ?_ hb
    rw [sgn_self]; exact hX
theorem val_sgn {x : UInt64} {a : Bool} {m : Nat} {e : Int} (h : decode x = .fin a m e) : val x = sgn a (val x).natAbs := by rw [val_natAbs h, val_eq h]
theorem sgn_xor (a b : Bool) (p q : Nat) : sgn (a != b) (p * q) = sgn a p * sgn b q := by
  unfold sgn; cases a <;> cases b <;> simp <;> grind
theorem mul_rnd {x y : UInt64} (hx : Fin x) (hy : Fin y) (hb : Big (fv x * fv y)) : Rnd (fv x * fv y) (mul x y) := by
  obtain ⟨a, m, e, hx⟩ := hx
  obtain ⟨b, k, f, hy⟩ := hy
  have := mul_right hx hy
  refine rnd_right this (Nat.two_pow_pos _) ?_ hb
  rw [sgn_xor, ← val_sgn hx, ← val_sgn hy, Rat.intCast_mul, ← KN_eq]
  unfold fv
  have := ku_mul
  generalize (KN : Rat) = k at *
  grind
theorem div_rnd {x y : UInt64} (hx : Fin x) (hy : Fin y) (h0 : fv y ≠ 0) (hb : Big (fv x / fv y)) : Rnd (fv x / fv y) (div x y) := by
  obtain ⟨a, m, e, hx⟩ := hx
  obtain ⟨b, k, f, hy⟩ := hy
  have hvy : val y ≠ 0 := fun h => h0 (by unfold fv; rw [h]; simp)
  have hk : k ≠ 0 := fun h => by
    apply hvy; rw [val_eq hy, h]; unfold sgn; simp
  have := div_right hx hy hk
  have hD : 0 < (val y).natAbs := by omega
  refine rnd_right this hD ?_ hb
  have e1 : sgn (a != b) ((val x).natAbs * 2 ^ 1074) * sgn b (val y).natAbs = val x * (KN : Int) * ((val y).natAbs : Int) := by
    rw [← sgn_xor]
    have : ((a != b) != b) = a := by cases a <;> cases b <;> rfl
    rw [this, sgn_mul, sgn_mul, ← val_sgn hx, ← KN_eq]
  have e2 := val_sgn hy
  have e3 : sgn b (val y).natAbs = val y := e2.symm
  rw [e3] at e1
  have e4 : ((sgn (a != b) ((val x).natAbs * 2 ^ 1074) * val y : Int) : Rat) = ((val x * (KN : Int) * ((val y).natAbs : Int) : Int) : Rat) := by rw [e1]
  rw [Rat.intCast_mul, Rat.intCast_mul, Rat.intCast_mul] at e4
  have hvyR : ((val y : Int) : Rat) ≠ 0 := fun h => hvy (by rw [← Rat.intCast_zero] at h; exact Rat.intCast_inj.mp h)
  have c1 : ((KN : Int) : Rat) = (KN : Rat) := Rat.intCast_natCast _
  have c2 : (((val y).natAbs : Int) : Rat) = ((val y).natAbs : Rat) := Rat.intCast_natCast _
  rw [c1, c2] at e4
  unfold fv at *
  have hku := ku_mul
  have hkp := ku_pos
  generalize ((sgn (a != b) ((val x).natAbs * 2 ^ 1074) : Int) : Rat) = S at *
  generalize (val y : Rat) = vy at *
  generalize (val x : Rat) = vx at *
  generalize ((val y).natAbs : Rat) = ny at *
  generalize (KN : Rat) = k at *
  generalize ku = u at *
  have hu : u ≠ 0 := by grind
  have e5 : vx * u / (vy * u) = vx / vy := by grind
  rw [e5]
  have e6 : vx / vy * (ny * k) * vy = S * vy := by grind
  grind
theorem ofInt_rnd (i : Int) (hb : Big (i : Rat)) : Rnd (i : Rat) (ofInt i) := by
  have := ofInt_right i
  refine rnd_right this (by decide) ?_ hb
  rw [sgn_mul, sgn_self, Rat.intCast_mul, ← KN_eq, Rat.intCast_natCast]
  show (_ : Rat) * (1 * _) = _
  grind
theorem ofFrac_rnd {a b : Int} (hb0 : b ≠ 0) (hb : Big ((a : Rat) / b)) : Rnd ((a : Rat) / b) (ofFrac (decide (a < 0) != decide (b < 0)) a.natAbs b.natAbs) := by
  have hD : 0 < b.natAbs := by omega
  have := ofFrac_right (neg := (decide (a < 0) != decide (b < 0))) (n := a.natAbs) (d := b.natAbs) (W := a.natAbs * 2 ^ 1074) (D := b.natAbs) hD rfl hD
  refine rnd_right this hD ?_ hb
  have e1 : sgn (decide (a < 0) != decide (b < 0)) (a.natAbs * 2 ^ 1074) * b = a * (KN : Int) * (b.natAbs : Int) := by
    have h1 : sgn (decide (b < 0)) b.natAbs = b := sgn_self b
    have h2 : sgn (decide (a < 0)) a.natAbs = a := sgn_self a
    have h3 : sgn (decide (a < 0) != decide (b < 0)) (a.natAbs * 2 ^ 1074) * sgn (decide (b < 0)) b.natAbs = a * (KN : Int) * (b.natAbs : Int) := by
      rw [← sgn_xor]
      have : ((decide (a < 0) != decide (b < 0)) != decide (b < 0)) = decide (a < 0) := by cases decide (a < 0) <;> cases decide (b < 0) <;> rfl
      rw [this, sgn_mul, sgn_mul, h2, ← KN_eq]
    rw [h1] at h3; exact h3
  have e4 : ((sgn (decide (a < 0) != decide (b < 0)) (a.natAbs * 2 ^ 1074) * b : Int) : Rat) = ((a * (KN : Int) * (b.natAbs : Int) : Int) : Rat) := by rw [e1]
  rw [Rat.intCast_mul, Rat.intCast_mul, Rat.intCast_mul] at e4
  have hbR : (b : Rat) ≠ 0 := fun h => hb0 (by rw [← Rat.intCast_zero] at h; exact Rat.intCast_inj.mp h)
  have c1 : ((KN : Int) : Rat) = (KN : Rat) := Rat.intCast_natCast _
  have c2 : ((b.natAbs : Int) : Rat) = (b.natAbs : Rat) := Rat.intCast_natCast _
  rw [c1, c2] at e4
  generalize ((sgn (decide (a < 0) != decide (b < 0)) (a.natAbs * 2 ^ 1074) : Int) : Rat) = S at *
  generalize (a : Rat) = va at *
  generalize (b : Rat) = vb at *
  generalize (b.natAbs : Rat) = nb at *
  generalize (KN : Rat) = k at *
  have e6 : va / vb * (nb * k) * vb = S * vb := by grind
  grind
theorem const_fv {c : UInt64} {n : Int} {d : Nat} (hd : d ≠ 0) (h : val c * d = n * 2 ^ 1074) : fv c = (n : Rat) / (d : Rat) := by
  unfold fv
  have h1 : ((val c * d : Int) : Rat) = ((n * (KN : Int) : Int) : Rat) := by rw [KN_eq, h]; simp
  rw [Rat.intCast_mul, Rat.intCast_mul, Rat.intCast_natCast, Rat.intCast_natCast] at h1
  have hdR : (d : Rat) ≠ 0 := fun h => hd (by have : ((d : Nat) : Rat) = ((0 : Nat) : Rat) := h; exact Rat.natCast_inj.mp this)
  have hku := ku_mul
  generalize (val c : Rat) = v at *
  generalize (KN : Rat) = k at *
  generalize (d : Rat) = d at *
  generalize ku = u at *
  have : v * u * d = n := by grind
  grind
end
end
section
section
open PySem PySem.Flt PySem.Float64
theorem fv_lt {x y : UInt64} : fv x < fv y ↔ val x < val y := by
  rw [← Rat.not_le, fv_le, Int.not_le]
theorem fv_eq {x y : UInt64} : fv x = fv y ↔ val x = val y := by
  constructor
  · intro h
    exact Int.le_antisymm (fv_le.mp (by rw [h]; exact Rat.le_refl)) (fv_le.mp (by rw [h]; exact Rat.le_refl))
  · intro h; unfold fv; rw [h]
theorem cmp_fin {x y : UInt64} (hx : Fin x) (hy : Fin y) : cmp x y = some (compare (val x) (val y)) := by
  obtain ⟨a, m, e, hx⟩ := hx
  obtain ⟨b, k, f, hy⟩ := hy
  exact cmp_right hx hy
theorem feq_iff {x y : UInt64} (hx : Fin x) (hy : Fin y) : feq x y = true ↔ fv x = fv y := by
  unfold feq
  rw [cmp_fin hx hy, fv_eq]
  rcases Int.lt_trichotomy (val x) (val y) with h | h | h
  · rw [Int.compare_eq_lt.mpr h]; simp; omega
  · rw [h]; simp
  · rw [Int.compare_eq_gt.mpr h]; simp; omega
theorem flt_iff {x y : UInt64} (hx : Fin x) (hy : Fin y) : flt x y = true ↔ fv x < fv y := by
  unfold flt
  rw [cmp_fin hx hy, fv_lt]
  rcases Int.lt_trichotomy (val x) (val y) with h | h | h
  · rw [Int.compare_eq_lt.mpr h]; simp; omega
  · rw [h]; simp
  · rw [Int.compare_eq_gt.mpr h]; simp; omega
theorem fgt_iff {x y : UInt64} (hx : Fin x) (hy : Fin y) : fgt x y = true ↔ fv y < fv x := by
  unfold fgt
  rw [cmp_fin hx hy, fv_lt]
  rcases Int.lt_trichotomy (val x) (val y) with h | h | h
  · rw [Int.compare_eq_lt.mpr h]; simp; omega
  · rw [h]; simp
  · rw [Int.compare_eq_gt.mpr h]; simp; omega
theorem fle_iff {x y : UInt64} (hx : Fin x) (hy : Fin y) : fle x y = true ↔ fv x ≤ fv y := by
  unfold fle
  rw [cmp_fin hx hy, fv_le]
  rcases Int.lt_trichotomy (val x) (val y) with h | h | h
  · rw [Int.compare_eq_lt.mpr h]; simp; omega
  · rw [h]; simp
  · rw [Int.compare_eq_gt.mpr h]; simp; omega
theorem val_zero_iff {x : UInt64} (hx : Fin x) : isZero x = true ↔ val x = 0 := by
  obtain ⟨a, m, e, h⟩ := hx
  have h1 := val_natAbs h
  unfold isZero
  rw [h]
  cases m with
  | zero => simp at h1; simp [h1]
  | succ n =>
    have : 0 < (n + 1) * 2 ^ (e + 1074).toNat := Nat.mul_pos (Nat.succ_pos _) (Nat.two_pow_pos _)
    simp only [Bool.false_eq_true, false_iff]
    omega
theorem isZero_iff {x : UInt64} (hx : Fin x) : isZero x = true ↔ fv x = 0 := by
  rw [val_zero_iff hx]
  constructor
  · intro h; unfold fv; rw [h]; simp
  · intro h
    unfold fv at h
    have hk := ku_pos
    have : (val x : Rat) = 0 := by
      rcases Rat.mul_eq_zero.mp h with h | h
      · exact h
      · exfalso; rw [h] at hk; exact absurd hk (by decide)
    rw [← Rat.intCast_zero] at this
    exact Rat.intCast_inj.mp this
-- round to the nearest int
theorem half_near {n d : Nat} (hd : 0 < d) {N : Int} (h : 2 * ((n : Int) - d * N).natAbs < d) : (halfEven n d : Int) = N := by
  have e := Nat.div_add_mod n d
  have l := Nat.mod_lt n hd
  unfold halfEven
  simp only
  have e' : (n : Int) = (d : Int) * ((n / d : Nat) : Int) + ((n % d : Nat) : Int) := by
    have : ((d * (n / d) + n % d : Nat) : Int) = (n : Int) := by rw [e]
    rw [← this]; simp
  generalize n / d = q at *
  generalize n % d = r at *
  have hq : (q : Int) = N ∨ (q : Int) + 1 = N := by
    rcases Int.lt_trichotomy (q : Int) N with h1 | h1 | h1
    · rcases Int.lt_or_le ((q : Int) + 1) N with h2 | h2
      · exfalso
        have : (d : Int) * ((q : Int) + 2) ≤ d * N := Int.mul_le_mul_of_nonneg_left (by omega) (by omega)
        rw [Int.mul_add] at this
        omega
      · right; omega
    · left; exact h1
    · exfalso
      have : (d : Int) * (N + 1) ≤ d * q := Int.mul_le_mul_of_nonneg_left (by omega) (by omega)
      rw [Int.mul_add] at this
      omega
  rcases hq with h1 | h1
  · subst h1
    have : ¬ (2 * r > d) := by omega
    have h3 : ¬ (2 * r = d) := by omega
    simp [this, h3]
  · rw [← h1, Int.mul_add] at h
    have : 2 * r > d := by omega
    simp [this]; omega
theorem round_near {x : UInt64} (hx : Fin x) {N : Int} (h : 2 * (val x - N * (KN : Int)).natAbs < KN) : toInt nearestOf x = N := by
  obtain ⟨s, m, e, hd⟩ := hx
  rw [toInt_fin hd]
  have he := decode_ge hd
  have hs := shift_one m e 1074 (by omega)
  have hp := shift_pos m 1 e (by decide)
  have hv := val_sgn hd
  have hn := val_natAbs hd
  unfold nearestOf
  simp only
  generalize (shift m 1 e).1 = n at *
  generalize (shift m 1 e).2 = d at *
  have e1 : ((1074 : Nat) : Int) = 1074 := rfl
  rw [e1, ← hn, ← KN_eq] at hs
  -- n * KN = |val x| * d
  have hK := KN_pos
  generalize KN = k at *
  have hs' : (n : Int) * k = ((val x).natAbs : Int) * d := by
    have : ((n * k : Nat) : Int) = (((val x).natAbs * d : Nat) : Int) := by rw [hs]
    simpa using this
  unfold sgn at hv ⊢
  cases s with
  | false =>
    simp only [Bool.false_eq_true, if_false] at hv ⊢
    refine half_near hp ?_
    have : ((n : Int) - d * N) * k = (val x - N * k) * d := by rw [← hv] at hs'; grind
    have h2 : ((n : Int) - d * N).natAbs * k = (val x - N * k).natAbs * d := by
      have := congrArg Int.natAbs this
      rw [Int.natAbs_mul, Int.natAbs_mul] at this
      simpa using this
    have h3 : 2 * ((n : Int) - d * N).natAbs * k < d * k := by
      have := Nat.mul_lt_mul_of_pos_right h hp
      calc 2 * ((n : Int) - d * N).natAbs * k = 2 * (((n : Int) - d * N).natAbs * k) := by ac_rfl
        _ = 2 * (val x - N * k).natAbs * d := by rw [h2]; ac_rfl
        _ < k * d := this
        _ = d * k := Nat.mul_comm _ _
    exact Nat.lt_of_mul_lt_mul_right h3
  | true =>
    simp only [if_true] at hv ⊢
    have : (halfEven n d : Int) = -N := by
      refine half_near hp ?_
      have : ((n : Int) - d * (-N)) * k = -(val x - N * k) * d := by
        have hv' : ((val x).natAbs : Int) = -val x := by omega
        rw [hv'] at hs'; grind
      have h2 : ((n : Int) - d * (-N)).natAbs * k = (val x - N * k).natAbs * d := by
        have := congrArg Int.natAbs this
        rw [Int.natAbs_mul, Int.natAbs_mul, Int.natAbs_neg] at this
        simpa using this
      have h3 : 2 * ((n : Int) - d * (-N)).natAbs * k < d * k := by
        have := Nat.mul_lt_mul_of_pos_right h hp
        calc 2 * ((n : Int) - d * (-N)).natAbs * k = 2 * (((n : Int) - d * (-N)).natAbs * k) := by ac_rfl
          _ = 2 * (val x - N * k).natAbs * d := by rw [h2]; ac_rfl
          _ < k * d := this
          _ = d * k := Nat.mul_comm _ _
      exact Nat.lt_of_mul_lt_mul_right h3
    omega
end
end
section
section
open PySem PySem.Flt PySem.Float64
theorem trunc_spec {x : UInt64} (hx : Fin x) (h0 : 0 ≤ val x) : toInt truncOf x * (KN : Int) ≤ val x ∧ val x < (toInt truncOf x + 1) * (KN : Int) := by
  obtain ⟨s, m, e, hd⟩ := hx
  rw [toInt_fin hd]
  have he := decode_ge hd
  have hv := val_eq hd
  have hpw : ∀ n : Nat, (0 : Int) < 2 ^ n := fun n => Int.pow_pos (by decide)
  have hK : (KN : Int) = 2 ^ 1074 := by rw [KN_eq]; simp
  have core : ∀ (m : Nat), floorOf false m e * (KN : Int) ≤ (m : Int) * 2 ^ (e + 1074).toNat ∧ (m : Int) * 2 ^ (e + 1074).toNat < (floorOf false m e + 1) * (KN : Int) := by
    intro m
    unfold floorOf sgn
    simp only [Bool.false_eq_true, if_false]
    split
    · rename_i h
      have e1 : (e + 1074).toNat = e.toNat + 1074 := by omega
      rw [e1, Int.pow_add, hK]
      have := hpw 1074
      generalize (2 : Int) ^ 1074 = k at *
      generalize (2 : Int) ^ e.toNat = q at *
      constructor
      · grind
      · grind
    · rename_i h
      have e1 : 1074 = (e + 1074).toNat + (-e).toNat := by omega
      have e2 : (2 : Int) ^ 1074 = 2 ^ (e + 1074).toNat * 2 ^ (-e).toNat := by
        rw [← Int.pow_add, ← e1]
      rw [hK, e2]
      have h1 := hpw (e + 1074).toNat
      have h2 := hpw (-e).toNat
      generalize (2 : Int) ^ (e + 1074).toNat = a at *
      generalize (2 : Int) ^ (-e).toNat = c at *
      rw [Int.fdiv_eq_ediv_of_nonneg _ (Int.le_of_lt h2)]
      have f1 := Int.emod_nonneg (m : Int) (Int.ne_of_gt h2)
      have f2 := Int.emod_lt_of_pos (m : Int) h2
      have f3 := Int.mul_ediv_add_emod (m : Int) c
      generalize (m : Int) / c = q at *
      generalize (m : Int) % c = r at *
      have g1 : q * (a * c) = (c * q) * a := by grind
      have g2 : (q + 1) * (a * c) = (c * q + c) * a := by grind
      rw [g1, g2]
      constructor
      · exact Int.mul_le_mul_of_nonneg_right (by omega) (Int.le_of_lt h1)
      · exact Int.mul_lt_mul_of_pos_right (by omega) h1
  unfold truncOf
  cases s with
  | false =>
    simp only [Bool.false_eq_true, if_false]
    rw [hv]
    have := core m
    unfold sgn
    simpa using this
  | true =>
    have hm : m = 0 := by
      rcases Nat.eq_zero_or_pos m with h | h
      · exact h
      · exfalso
        rw [hv] at h0
        unfold sgn at h0
        have : 0 < m * 2 ^ (e + 1074).toNat := Nat.mul_pos h (Nat.two_pow_pos _)
        simp only [if_true] at h0
        omega
    subst hm
    have h1 : floorOf false 0 e = 0 := by
      unfold floorOf sgn; simp
    have h2 : val x = 0 := by rw [hv]; unfold sgn; simp
    simp only [if_true]
    unfold ceilOf
    simp only [Bool.not_true]
    rw [h1, h2]
    have := KN_pos
    simp; omega
theorem decode_c1 : decode c1 = .fin false (2 ^ 52) (-52) := by
  kernel_rfl
theorem exact_ri {r : UInt64} {neg : Bool} {W : Nat} (h : Right r neg W 1) (hs : W ≤ 2 ^ 1974) {t : Nat} (ht : V t = W) : Fin r ∧ val r = sgn neg W := by
  have h1 := right_ri h (by decide) (by simpa using hs)
  refine ⟨h1.fin, ?_⟩
  obtain ⟨t0, hr, hle, hov, hn⟩ := h
  have hlt : t0 < infMag := by
    rcases Nat.lt_or_ge t0 infMag with h1 | h1
    · exact h1
    · exfalso
      have h2 := hov.mp (Nat.le_antisymm hle h1)
      have h3 : 2 * 2 ^ 1974 < 1 * ((2 ^ 54 - 1) * 2 ^ 2045) := by decide +kernel
      have h4 := Nat.le_trans h2 (Nat.mul_le_mul_left 2 hs)
      exact absurd h3 (Nat.not_lt.mpr h4)
  have h2 := (hn hlt t).1
  rw [dist_le, dist_le, ht] at h2
  rw [hr, val_pack neg hlt]
  have : V t0 = W := by omega
  rw [this]
/-- x fmod 1.0, exact -/
theorem fmod_one {x : UInt64} {a : Bool} {m : Nat} {e : Int} (hd : decode x = .fin a m e) : Fin (fmod x c1) ∧ val (fmod x c1) = sgn a ((val x).natAbs % KN) := by
  have he := decode_ge hd
  have hm := mant_lt hd
  have hn := val_natAbs hd
  have hf : fmod x c1 = ofBin a ((sgn false (m * 2 ^ (e - min e (-52)).toNat)).toNat % (sgn false (2 ^ 52 * 2 ^ ((-52) - min e (-52)).toNat)).toNat) (min e (-52)) := by
    unfold fmod
    rw [hd, decode_c1]
    simp only [align]
    rw [if_neg (by decide)]
  have hj : ∀ z : Nat, (sgn false z).toNat = z := fun z => by unfold sgn; simp
  rw [hj, hj] at hf
  generalize hg : min e (-52) = g at *
  have hgm : g + 1074 ≥ 0 := by omega
  have eq1 : m * 2 ^ (e - g).toNat * 2 ^ (g + 1074).toNat = (val x).natAbs := by
    rw [hn, Nat.mul_assoc, ← Nat.pow_add]
    congr 2; omega
  have eq2 : 2 ^ 52 * 2 ^ ((-52) - g).toNat * 2 ^ (g + 1074).toNat = KN := by
    rw [KN_eq, ← Nat.pow_add, ← Nat.pow_add]
    congr 1; omega
  have hjle : (m * 2 ^ (e - g).toNat) % (2 ^ 52 * 2 ^ ((-52) - g).toNat) ≤ 2 ^ 53 := by
    rcases Int.le_total e (-52) with h | h
    · have : g = e := by omega
      subst this
      have h1 : m * 2 ^ (g - g).toNat = m := by simp
      rw [h1]
      exact Nat.le_trans (Nat.mod_le _ _) (Nat.le_of_lt hm)
    · have : g = -52 := by omega
      subst this
      have h1 : 2 ^ 52 * 2 ^ ((-52 : Int) - (-52)).toNat = 2 ^ 52 := by simp
      rw [h1]
      have := Nat.mod_lt (m * 2 ^ (e - (-52)).toNat) (show 0 < 2 ^ 52 by decide)
      omega
  have eq3 : (m * 2 ^ (e - g).toNat) % (2 ^ 52 * 2 ^ ((-52) - g).toNat) * 2 ^ (g + 1074).toNat = (val x).natAbs % KN := by
    rw [← eq1, ← eq2, Nat.mul_mod_mul_right]
  generalize (m * 2 ^ (e - g).toNat) % (2 ^ 52 * 2 ^ ((-52) - g).toNat) = j at *
  obtain ⟨t, ht⟩ := grid (g + 1074).toNat j hjle
  have hs := shift_one j g 1074 (by omega)
  have hp := shift_pos j 1 g (by decide)
  have hR : Right (fmod x c1) a (j * 2 ^ (g + 1074).toNat) 1 := by
    rw [hf]
    unfold ofBin
    refine ofFrac_right hp ?_ (by decide)
    rw [Nat.mul_one]
    exact hs
  have hK : (val x).natAbs % KN < KN := Nat.mod_lt _ KN_pos
  have hlt : j * 2 ^ (g + 1074).toNat ≤ 2 ^ 1974 := by
    rw [eq3]
    have h1 : KN ≤ 2 ^ 1974 := by rw [KN_eq]; exact Nat.pow_le_pow_right (by decide) (by decide)
    exact Nat.le_trans (Nat.le_of_lt hK) h1
  have := exact_ri hR hlt ht
  rw [eq3] at this
  exact this
end
end
section
section
open PySem PySem.Flt PySem.Float64
/-- x is X within e -/
structure Ap (x : UInt64) (X e : Rat) : Prop where
  fin : Fin x
  lo : X - e ≤ fv x
  hi : fv x ≤ X + e
theorem rabs_mul {a b A B : Rat} (ha : -A ≤ a) (ha' : a ≤ A) (hb : -B ≤ b) (hb' : b ≤ B) : -(A * B) ≤ a * b ∧ a * b ≤ A * B := by
  have h1 := Rat.mul_nonneg (a := A - a) (b := B - b) (by grind) (by grind)
  have h2 := Rat.mul_nonneg (a := A + a) (b := B + b) (by grind) (by grind)
  have h3 := Rat.mul_nonneg (a := A - a) (b := B + b) (by grind) (by grind)
  have h4 := Rat.mul_nonneg (a := A + a) (b := B - b) (by grind) (by grind)
  constructor <;> grind
theorem p4 : (2 : Rat) ^ 4 = 16 := by decide +kernel
theorem p54 : (2 : Rat) ^ 54 = 18014398509481984 := by decide +kernel
theorem p900 : (1267650600228229401496703205376 : Rat) ≤ 2 ^ 900 := by decide +kernel
theorem big_of {X : Rat} (h1 : -1267650600228229401496703205376 ≤ X) (h2 : X ≤ 1267650600228229401496703205376) : Big X := by
  have := p900
  exact ⟨by grind, by grind⟩
noncomputable abbrev uu : Rat := 1 / 1125899906842624
theorem rnd_ap {X : Rat} {r : UInt64} (h : Rnd X r) (h1 : -16 ≤ X) (h2 : X ≤ 16) : Ap r X uu := by
  obtain ⟨a, b⟩ := h.err 4 (by rw [p4]; exact h1) (by rw [p4]; exact h2)
  rw [p4, p54] at a b
  exact ⟨h.fin, by unfold uu; grind, by unfold uu; grind⟩
theorem Ap.wide {x : UInt64} {X e f : Rat} (h : Ap x X e) (hf : e ≤ f) : Ap x X f := ⟨h.fin, by have := h.lo; grind, by have := h.hi; grind⟩
theorem Ap.to {x : UInt64} {X Y e f : Rat} (h : Ap x X e) (h1 : Y - f ≤ X - e) (h2 : X + e ≤ Y + f) : Ap x Y f := ⟨h.fin, by have := h.lo; grind, by have := h.hi; grind⟩
theorem ap_add {x y : UInt64} {X Y e f g : Rat} (hx : Ap x X e) (hy : Ap y Y f) (h1 : -15 ≤ X + Y) (h2 : X + Y ≤ 15) (hs : e + f ≤ 1) (hg : e + f + uu ≤ g) : Ap (add x y) (X + Y) g := by
  have := hx.lo; have := hx.hi; have := hy.lo; have := hy.hi
  have h := rnd_ap (add_rnd hx.fin hy.fin (big_of (by grind) (by grind))) (by grind) (by grind)
  have := h.lo; have := h.hi
  exact ⟨h.fin, by grind, by grind⟩
theorem ap_sub {x y : UInt64} {X Y e f g : Rat} (hx : Ap x X e) (hy : Ap y Y f) (h1 : -15 ≤ X - Y) (h2 : X - Y ≤ 15) (hs : e + f ≤ 1) (hg : e + f + uu ≤ g) : Ap (sub x y) (X - Y) g := by
  have := hx.lo; have := hx.hi; have := hy.lo; have := hy.hi
  have h := rnd_ap (sub_rnd hx.fin hy.fin (big_of (by grind) (by grind))) (by grind) (by grind)
  have := h.lo; have := h.hi
  exact ⟨h.fin, by grind, by grind⟩
theorem ap_mul {x y : UInt64} {X Y e f g : Rat} (A B : Rat) (hx : Ap x X e) (hy : Ap y Y f) (hX : -A ≤ X) (hX' : X ≤ A) (hY : -B ≤ Y) (hY' : Y ≤ B) (hs : A * B + (A * f + B * e + e * f) ≤ 16) (hg : A * f + B * e + e * f + uu ≤ g) : Ap (mul x y) (X * Y) g := by
  have a1 := hx.lo; have a2 := hx.hi; have a3 := hy.lo; have a4 := hy.hi
  have m1 := rabs_mul hX hX' hY hY'
  have m2 := rabs_mul (a := X) (b := fv y - Y) hX hX' (show -f ≤ _ by grind) (by grind)
  have m3 := rabs_mul (a := fv x - X) (b := Y) (A := e) (by grind) (by grind) hY hY'
  have m4 := rabs_mul (a := fv x - X) (b := fv y - Y) (A := e) (B := f) (by grind) (by grind) (by grind) (by grind)
  have eq : fv x * fv y = X * Y + X * (fv y - Y) + (fv x - X) * Y + (fv x - X) * (fv y - Y) := by grind
  have h := rnd_ap (mul_rnd hx.fin hy.fin (big_of (by grind) (by grind))) (by grind) (by grind)
  have := h.lo; have := h.hi
  exact ⟨h.fin, by grind, by grind⟩
end
end
section
section
open PySem PySem.Flt PySem.Float64
theorem fv_c1 : fv c1 = 1 := by
  have := const_fv (c := c1) (n := 1) (d := 1) (by decide) (by kernel_rfl)
  rw [this]; decide +kernel
theorem fv_z : fv 0 = 0 := by
  have := const_fv (c := 0) (n := 0) (d := 1) (by decide) (by kernel_rfl)
  rw [this]; decide +kernel
theorem fin_c1 : Fin c1 := ⟨_, _, _, decode_c1⟩
theorem fin_z : Fin 0 := ⟨false, 0, -1074, by kernel_rfl⟩
theorem lt_flt (x y : UInt64) : lt x y = flt x y := rfl
theorem mod1 {x : UInt64} (hx : Fin x) : ∃ k : Int, Ap (divmod x c1).2 (fv x - k) uu ∧ 0 ≤ fv (divmod x c1).2 ∧ fv (divmod x c1).2 ≤ 1 ∧ 0 ≤ fv x - k ∧ fv x - k < 1 ∧ (0 ≤ fv x → fv (divmod x c1).2 = fv x - k) := by
  obtain ⟨a, m, e, hd⟩ := hx
  obtain ⟨hf, hv⟩ := fmod_one hd
  have hs := val_sgn hd
  have hK := KN_pos
  have hku := ku_mul
  have hkp := ku_pos
  have hrem : (val x).natAbs % KN < KN := Nat.mod_lt _ hK
  have hdm := Nat.div_add_mod (val x).natAbs KN
  generalize hR : (val x).natAbs % KN = rem at *
  generalize hQ : (val x).natAbs / KN = quo at *
  have hxv : val x = sgn a (KN * quo) + sgn a rem := by
    rw [hs, ← hdm]; unfold sgn; cases a
    · simp
    · simp only [if_true]; omega
  have hfx : fv x = (sgn a quo : Rat) + fv (fmod x c1) := by
    unfold fv
    rw [hxv, hv, Rat.intCast_add]
    have : ((sgn a (KN * quo) : Int) : Rat) = (sgn a quo : Rat) * (KN : Rat) := by
      rw [show sgn a (KN * quo) = sgn a quo * (KN : Int) by rw [Nat.mul_comm, sgn_mul], Rat.intCast_mul, Rat.intCast_natCast]
    rw [this]
    generalize (KN : Rat) = k at *
    grind
  have hlt1 : fv (fmod x c1) < 1 := by
    rw [← fv_c1, fv_lt, hv]
    have : val c1 = (KN : Int) := by rw [KN_eq]; kernel_rfl
    rw [this]; unfold sgn; split <;> omega
  have hgt1 : -1 < fv (fmod x c1) := by
    have h1 : -(KN : Int) < val (fmod x c1) := by rw [hv]; unfold sgn; split <;> omega
    have h2 : ((-(KN : Int) : Int) : Rat) < (val (fmod x c1) : Rat) := Rat.intCast_lt_intCast.mpr h1
    rw [Rat.intCast_neg, Rat.intCast_natCast] at h2
    have := Rat.mul_lt_mul_of_pos_right h2 hkp
    unfold fv
    generalize (KN : Rat) = k at *
    grind
  have hsg : (a = false → 0 ≤ fv (fmod x c1)) ∧ (a = true → fv (fmod x c1) ≤ 0) := by
    constructor
    · intro ha; rw [← fv_z, fv_le, hv, ha]
      have : val 0 = 0 := by kernel_rfl
      rw [this]; unfold sgn; simp
    · intro ha; rw [← fv_z, fv_le, hv, ha]
      have : val 0 = 0 := by kernel_rfl
      rw [this]; unfold sgn; simp
  have hsx : (a = true → fv x ≤ 0) := by
    intro ha; rw [hfx, ha]
    have h1 := hsg.2 ha
    have h2 : ((sgn true quo : Int) : Rat) ≤ 0 := by
      rw [← Rat.intCast_zero, Rat.intCast_le_intCast]; unfold sgn; simp
    grind
  have hdef : (divmod x c1).2 = if isZero (fmod x c1) then copysign (zero false) c1 else if lt c1 (zero false) != lt (fmod x c1) (zero false) then add (fmod x c1) c1 else fmod x c1 := by
    unfold divmod
    simp only
    split
    · rfl
    · split <;> rfl
  have hz0 : zero false = 0 := by kernel_rfl
  have hcs : copysign (zero false) c1 = 0 := by kernel_rfl
  have hl1 : lt c1 (zero false) = false := by kernel_rfl
  have hu : (0 : Rat) ≤ uu := by decide +kernel
  rw [hcs, hl1, hz0, lt_flt] at hdef
  by_cases hz : isZero (fmod x c1) = true
  · rw [hz] at hdef
    simp only [if_true] at hdef
    have h0 := (isZero_iff hf).mp hz
    refine ⟨sgn a quo, ?_⟩
    rw [hdef, fv_z]
    refine ⟨⟨fin_z, ?_, ?_⟩, ?_, ?_, ?_, ?_, ?_⟩ <;> (try rw [fv_z]) <;> grind
  · simp only [hz] at hdef
    have hnz : fv (fmod x c1) ≠ 0 := fun h => hz ((isZero_iff hf).mpr h)
    by_cases hneg : flt (fmod x c1) 0 = true
    · rw [hneg] at hdef
      have hdef : (divmod x c1).2 = add (fmod x c1) c1 := by simpa using hdef
      have hlt := (flt_iff hf fin_z).mp hneg
      rw [fv_z] at hlt
      have hr := add_rnd hf fin_c1 (big_of (by rw [fv_c1]; grind) (by rw [fv_c1]; grind))
      have hrr := hr
      rw [fv_c1] at hr
      have hap := rnd_ap hr (by grind) (by grind)
      have h0 := hr.dn 0 fin_z (by rw [fv_z]; grind)
      have h1 := hr.up c1 fin_c1 (by rw [fv_c1]; grind)
      rw [fv_z] at h0
      rw [fv_c1] at h1
      have ha : a = true := by
        cases a
        · have := hsg.1 rfl; exfalso; grind
        · rfl
      have hx0 := hsx ha
      refine ⟨sgn a quo - 1, ?_⟩
      rw [hdef, Rat.intCast_sub]
      have e1 : ((1 : Int) : Rat) = 1 := rfl
      rw [e1]
      refine ⟨⟨hap.fin, ?_, ?_⟩, h0, h1, ?_, ?_, ?_⟩
      · have := hap.lo; grind
      · have := hap.hi; grind
      · grind
      · grind
      · intro hx; exfalso
        have : fv x < 0 := by
          rw [hfx, ha]
          have h2 : ((sgn true quo : Int) : Rat) ≤ 0 := by
            rw [← Rat.intCast_zero, Rat.intCast_le_intCast]; unfold sgn; simp
          grind
        grind
    · have hneg' : flt (fmod x c1) 0 = false := by cases h : flt (fmod x c1) 0; rfl; exact absurd h hneg
      rw [hneg'] at hdef
      have hdef : (divmod x c1).2 = fmod x c1 := by simpa using hdef
      have hge : 0 ≤ fv (fmod x c1) := by
        rcases Rat.le_total (a := 0) (b := fv (fmod x c1)) with h | h
        · exact h
        · exfalso
          apply hneg
          rw [flt_iff hf fin_z, fv_z]; grind
      refine ⟨sgn a quo, ?_⟩
      rw [hdef]
      refine ⟨⟨hf, ?_, ?_⟩, ?_, ?_, ?_, ?_, ?_⟩ <;> grind
theorem ap_div {x y : UInt64} {Z Y e f g : Rat} (A lo d : Rat) (hx : Ap x (Z * Y) e) (hy : Ap y Y f) (hZ : -A ≤ Z) (hZ' : Z ≤ A) (hl : lo ≤ Y) (h0 : 0 < lo) (hf : f ≤ lo / 2) (hd : e + A * f ≤ d * (lo / 2)) (hs : A + d ≤ 16) (hd0 : 0 ≤ d) (hg : d + uu ≤ g) : Ap (div x y) Z g := by
  have a1 := hx.lo; have a2 := hx.hi; have a3 := hy.lo; have a4 := hy.hi
  have hyp : lo / 2 ≤ fv y := by grind
  have hy0 : 0 < fv y := by grind
  have hne : fv y ≠ 0 := by grind
  have hq : fv x / fv y * fv y = fv x := by grind
  have m2 := rabs_mul (a := Z) (b := Y - fv y) (A := A) (B := f) (by grind) (by grind) (by grind) (by grind)
  have e1 : (fv x / fv y - Z) * fv y = (fv x - Z * Y) + Z * (Y - fv y) := by grind
  have k1 : d * (lo / 2) ≤ d * fv y := Rat.mul_le_mul_of_nonneg_left hyp hd0
  have b1 : fv x / fv y - Z ≤ d := by
    apply Rat.le_of_mul_le_mul_right _ hy0
    rw [e1]; grind
  have b2 : -d ≤ fv x / fv y - Z := by
    apply Rat.le_of_mul_le_mul_right _ hy0
    rw [e1]; grind
  have h := rnd_ap (div_rnd hx.fin hy.fin hne (big_of (by grind) (by grind))) (by grind) (by grind)
  have := h.lo; have := h.hi
  exact ⟨h.fin, by grind, by grind⟩
end
end
section
section
open PySem PySem.Flt PySem.Float64
theorem rnd_apk {X : Rat} {r : UInt64} (k : Nat) (B u : Rat) (h : Rnd X r) (hB : (2 : Rat) ^ k = B) (h1 : -B ≤ X) (h2 : X ≤ B) (hu : B / 18014398509481984 ≤ u) : Ap r X u := by
  obtain ⟨a, b⟩ := h.err k (by rw [hB]; exact h1) (by rw [hB]; exact h2)
  rw [hB, p54] at a b
  exact ⟨h.fin, by grind, by grind⟩
theorem round_ap {x : UInt64} {N : Int} {g : Rat} (h : Ap x (N : Rat) g) (hg : g < 1 / 2) : toInt nearestOf x = N := by
  refine round_near h.fin ?_
  have hK := KN_posR
  have hku := ku_mul
  have hkp := ku_pos
  have h1 := h.lo
  have h2 := h.hi
  have e1 : ((val x - N * (KN : Int) : Int) : Rat) = (fv x - N) * (KN : Rat) := by
    rw [Rat.intCast_sub, Rat.intCast_mul, Rat.intCast_natCast]; unfold fv
    generalize (KN : Rat) = k at *
    grind
  have l1 : (fv x - N) * (KN : Rat) < 1 / 2 * (KN : Rat) := Rat.mul_lt_mul_of_pos_right (by grind) hK
  have l2 : (-(1 / 2)) * (KN : Rat) < (fv x - N) * (KN : Rat) := Rat.mul_lt_mul_of_pos_right (by grind) hK
  rw [← e1] at l1 l2
  generalize hz : (val x - N * (KN : Int)) = z at *
  have c1 : ((2 * z : Int) : Rat) < (((KN : Nat) : Int) : Rat) := by
    rw [Rat.intCast_mul, Rat.intCast_natCast]
    have : ((2 : Int) : Rat) = 2 := rfl
    rw [this]; grind
  have c2 : ((-((KN : Nat) : Int) : Int) : Rat) < ((2 * z : Int) : Rat) := by
    rw [Rat.intCast_mul, Rat.intCast_neg, Rat.intCast_natCast]
    have : ((2 : Int) : Rat) = 2 := rfl
    rw [this]; grind
  rw [Rat.intCast_lt_intCast] at c1 c2
  omega
/-- what `_law_is` asks -/
theorem is_of {x : UInt64} {X g : Rat} {P W : Int} (h : Ap x X g) (hW0 : 0 < W) (hW : W ≤ 4194304) (hX0 : -4 ≤ X) (hX1 : X ≤ 4) (hP : X * (W : Rat) = (P : Rat)) (hg0 : 0 ≤ g) (hg : g * (W : Rat) ≤ 1 / 4194304) : Is x P W := by
  have w0 : (0 : Rat) < (W : Rat) := by rw [← Rat.intCast_zero, Rat.intCast_lt_intCast]; exact hW0
  have w1 : (1 : Rat) ≤ (W : Rat) := by
    have : (((1 : Int)) : Rat) ≤ (W : Rat) := by rw [Rat.intCast_le_intCast]; omega
    exact this
  have w2 : (W : Rat) ≤ 4194304 := by
    have : (W : Rat) ≤ ((4194304 : Int) : Rat) := by rw [Rat.intCast_le_intCast]; exact hW
    exact this
  have hgs : g ≤ 1 := by
    have : g * 1 ≤ g * (W : Rat) := Rat.mul_le_mul_of_nonneg_left w1 hg0
    grind
  have hw := rnd_apk 22 4194304 (1 / 4294967296) (ofInt_rnd (i := W) (big_of (by grind) (by grind))) (by decide +kernel) (by grind) (by grind) (by decide +kernel)
  have a1 := h.lo; have a2 := h.hi; have a3 := hw.lo; have a4 := hw.hi
  have m1 := rabs_mul (a := fv x) (b := fv (ofInt W) - W) (A := 5) (B := 1 / 4294967296) (by grind) (by grind) (by grind) (by grind)
  have m2 := rabs_mul (a := fv x - X) (b := (W : Rat)) (A := g) (B := (W : Rat)) (by grind) (by grind) (by grind) (by grind)
  have m3 := rabs_mul (a := X) (b := (W : Rat)) (A := 4) (B := 4194304) (by grind) (by grind) (by grind) (by grind)
  have e1 : fv x * fv (ofInt W) = (P : Rat) + (fv x - X) * (W : Rat) + fv x * (fv (ofInt W) - W) := by rw [← hP]; grind
  have r1 := rnd_apk 25 33554432 (1 / 536870912) (mul_rnd h.fin hw.fin (big_of (by grind) (by grind))) (by decide +kernel) (by grind) (by grind) (by decide +kernel)
  have b1 := r1.lo; have b2 := r1.hi
  have hP1 : -16777216 ≤ (P : Rat) := by grind
  have hP2 : (P : Rat) ≤ 16777216 := by grind
  -- the second factor
  have ht := rnd_apk 20 1048576 (1 / 17179869184) (ofInt_rnd (i := 1048576) (by decide +kernel)) (by decide +kernel) (by decide +kernel) (by decide +kernel) (by decide +kernel)
  have t3 := ht.lo; have t4 := ht.hi
  have tc : (((1048576 : Int)) : Rat) = 1048576 := rfl
  rw [tc] at t3 t4
  generalize hy : mul x (ofInt W) = y at *
  have d1 : -(1 / 3145728) ≤ fv y - P := by grind
  have d2 : fv y - P ≤ 1 / 3145728 := by grind
  have n1 := rabs_mul (a := fv y) (b := fv (ofInt 1048576) - 1048576) (A := 16777217) (B := 1 / 17179869184) (by grind) (by grind) (by grind) (by grind)
  have e2 : fv y * fv (ofInt 1048576) = (P : Rat) * 1048576 + (fv y - P) * 1048576 + fv y * (fv (ofInt 1048576) - 1048576) := by grind
  have r2 := rnd_apk 45 35184372088832 (1 / 512) (mul_rnd r1.fin ht.fin (big_of (by grind) (by grind))) (by decide +kernel) (by grind) (by grind) (by decide +kernel)
  have q1 := r2.lo; have q2 := r2.hi
  have hap : Ap (mul y (ofInt 1048576)) ((P * 1048576 : Int) : Rat) (2 / 5) := by
    rw [Rat.intCast_mul, tc]
    exact ⟨r2.fin, by grind, by grind⟩
  have hPb : P.natAbs < 2 ^ 40 := by
    have c1 : ((-16777216 : Int) : Rat) ≤ (P : Rat) := hP1
    have c2 : (P : Rat) ≤ ((16777216 : Int) : Rat) := hP2
    rw [Rat.intCast_le_intCast] at c1 c2
    omega
  refine ⟨hPb, hW0, by omega, ?_, ?_⟩
  · rw [hy]; exact r2.fin.finite
  · unfold isF
    rw [hy, round_ap hap (by decide +kernel)]
    simp
end
end
section
section
/-- the trapezoid -/
noncomputable def tr (m : Rat) : Rat := if m ≤ 0 then 0 else if m ≤ 1 then m else if m ≤ 3 then 1 else if m ≤ 4 then 4 - m else 0
/-- with the period 6 -/
noncomputable def tz (y : Rat) : Rat := tr (y - 6 * ((y / 6).floor : Rat))
theorem fl6 (y : Rat) : 0 ≤ y - 6 * ((y / 6).floor : Rat) ∧ y - 6 * ((y / 6).floor : Rat) < 6 := by
  have h1 : ((y / 6).floor : Rat) ≤ y / 6 := Rat.floor_le _
  have h2 : y / 6 < ((y / 6).floor : Rat) + 1 := by
    have := Rat.lt_floor_add_one (y / 6)
    rw [Rat.intCast_add] at this; exact this
  constructor <;> grind
theorem int_lt_of {a b : Int} (h : (a : Rat) < (b : Rat) + 1) : a ≤ b := by
  have : ((a : Int) : Rat) < ((b + 1 : Int) : Rat) := by rw [Rat.intCast_add]; exact h
  have := Rat.intCast_lt_intCast.mp this
  omega
theorem tr06 : tr 6 = tr 0 := by decide +kernel
theorem tz_at {y : Rat} (k : Int) (h0 : 0 ≤ y - 6 * (k : Rat)) (h6 : y - 6 * (k : Rat) ≤ 6) : tz y = tr (y - 6 * (k : Rat)) := by
  obtain ⟨a, b⟩ := fl6 y
  unfold tz
  generalize (y / 6).floor = l at *
  have h1 : l ≤ k + 1 := int_lt_of (by rw [Rat.intCast_add]; have : ((1 : Int) : Rat) = 1 := rfl; grind)
  have h2 : k ≤ l := int_lt_of (by grind)
  rcases Int.lt_or_le k l with h | h
  · have : l = k + 1 := by omega
    subst this
    rw [Rat.intCast_add] at a b ⊢
    have e1 : ((1 : Int) : Rat) = 1 := rfl
    rw [e1] at *
    unfold tr; grind
  · have : l = k := by omega
    subst this; rfl
theorem tz_add6 (y : Rat) (k : Int) : tz (y + 6 * (k : Rat)) = tz y := by
  obtain ⟨a, b⟩ := fl6 y
  generalize (y / 6).floor = l at *
  rw [tz_at (y := y) l a (by grind), tz_at (y := y + 6 * (k : Rat)) (l + k) (by rw [Rat.intCast_add]; grind) (by rw [Rat.intCast_add]; grind)]
  rw [Rat.intCast_add]; congr 1; grind
theorem tr_b (m : Rat) : 0 ≤ tr m ∧ tr m ≤ 1 := by unfold tr; grind
theorem tz_b (y : Rat) : 0 ≤ tz y ∧ tz y ≤ 1 := tr_b _
noncomputable def mnR (a b : Rat) : Rat := if a ≤ b then a else b
noncomputable def mxR (a b : Rat) : Rat := if a ≤ b then b else a
theorem mn_lip {a b c d e : Rat} (h1 : a - c ≤ e) (h2 : b - d ≤ e) : mnR a b - mnR c d ≤ e := by unfold mnR; split <;> split <;> grind
theorem mx_lip {a b c d e : Rat} (h1 : a - c ≤ e) (h2 : b - d ≤ e) : mxR a b - mxR c d ≤ e := by unfold mxR; split <;> split <;> grind
theorem tr_mn (m : Rat) : tr m = mxR 0 (mnR (mnR m 1) (4 - m)) := by unfold tr mxR mnR; grind
theorem tr_lip {a b e : Rat} (h1 : a - b ≤ e) (h2 : b - a ≤ e) : tr a - tr b ≤ e := by
  have e0 : 0 ≤ e := by grind
  rw [tr_mn, tr_mn]
  exact mx_lip (by rw [Rat.sub_self]; exact e0) (mn_lip (mn_lip h1 (by rw [Rat.sub_self]; exact e0)) (by grind))
theorem tr_zero : tr 0 = 0 := by decide +kernel
theorem tr_over {u v e : Rat} (hu : u ≤ 6) (hv : 0 ≤ v) (h : v + 6 - u ≤ e) : tr u - tr v ≤ e ∧ tr v - tr u ≤ e := by
  have a := tr_lip (a := u) (b := 6) (e := 6 - u) (by grind) (by grind)
  have b := tr_lip (a := 6) (b := u) (e := 6 - u) (by grind) (by grind)
  have c := tr_lip (a := 0) (b := v) (e := v) (by grind) (by grind)
  have d := tr_lip (a := v) (b := 0) (e := v) (by grind) (by grind)
  rw [tr06, tr_zero] at a b
  rw [tr_zero] at c d
  constructor <;> grind
theorem tz_lip {x y e : Rat} (h1 : x - y ≤ e) (h2 : y - x ≤ e) : tz x - tz y ≤ e := by
  obtain ⟨a, b⟩ := fl6 x
  obtain ⟨c, d⟩ := fl6 y
  unfold tz
  generalize (x / 6).floor = k at *
  generalize (y / 6).floor = l at *
  have b1 := tr_b (x - 6 * (k : Rat))
  have b2 := tr_b (y - 6 * (l : Rat))
  have e1 : ((1 : Int) : Rat) = 1 := rfl
  have e2 : ((2 : Int) : Rat) = 2 := rfl
  rcases Int.lt_trichotomy k l with h | h | h
  · rcases Int.lt_or_le (k + 1) l with h3 | h3
    · have := Rat.intCast_le_intCast.mpr (show k + 2 ≤ l by omega)
      rw [Rat.intCast_add, e2] at this
      clear a d
      grind
    · have : l = k + 1 := by omega
      subst this
      rw [Rat.intCast_add, e1] at *
      clear b1 b2 a d
      exact (tr_over (Rat.le_of_lt b) c (by grind)).1
  · subst h; exact tr_lip (by grind) (by grind)
  · rcases Int.lt_or_le (l + 1) k with h3 | h3
    · have := Rat.intCast_le_intCast.mpr (show l + 2 ≤ k by omega)
      rw [Rat.intCast_add, e2] at this
      clear b c
      grind
    · have : k = l + 1 := by omega
      subst this
      rw [Rat.intCast_add, e1] at *
      clear b1 b2 b c
      exact (tr_over (Rat.le_of_lt d) a (by grind)).2
end
end
section
section
open PySem PySem.Flt PySem.Float64
theorem fv_c2 : fv c2 = 2 := by
  have := const_fv (c := c2) (n := 2) (d := 1) (by decide) (by kernel_rfl)
  rw [this]; decide +kernel
theorem fv_c4 : fv c4 = 4 := by
  have := const_fv (c := c4) (n := 4) (d := 1) (by decide) (by kernel_rfl)
  rw [this]; decide +kernel
theorem fv_c6 : fv c6 = 6 := by
  have := const_fv (c := c6) (n := 6) (d := 1) (by decide) (by kernel_rfl)
  rw [this]; decide +kernel
theorem fv_half : fv cHalf = 1 / 2 := by
  have := const_fv (c := cHalf) (n := 1) (d := 2) (by decide) (by kernel_rfl)
  rw [this]; decide +kernel
theorem fin_of {x : UInt64} (h : isFinite x = true) : Fin x := by
  unfold isFinite at h
  split at h
  · exact ⟨_, _, _, by assumption⟩
  · cases h
theorem fin_c2 : Fin c2 := fin_of (by kernel_rfl)
theorem fin_c4 : Fin c4 := fin_of (by kernel_rfl)
theorem fin_c6 : Fin c6 := fin_of (by kernel_rfl)
theorem fin_half : Fin cHalf := fin_of (by kernel_rfl)
theorem ap_self {x : UInt64} (h : Fin x) : Ap x (fv x) 0 := ⟨h, by grind, by grind⟩
theorem ofInt_exact {i : Int} (h : i.natAbs ≤ 2 ^ 53) : Fin (ofInt i) ∧ fv (ofInt i) = (i : Rat) := by
  have hr := ofInt_right i
  obtain ⟨t, ht⟩ := grid 1074 i.natAbs h
  have := exact_ri hr (by
    calc i.natAbs * 2 ^ 1074 ≤ 2 ^ 53 * 2 ^ 1074 := Nat.mul_le_mul_right _ h
      _ ≤ 2 ^ 1974 := by rw [← Nat.pow_add]; exact Nat.pow_le_pow_right (by decide) (by decide)) ht
  refine ⟨this.1, ?_⟩
  have e1 : val (ofInt i) = i * (KN : Int) := by
    rw [this.2, sgn_mul, sgn_self, KN_eq]
  unfold fv
  rw [e1, Rat.intCast_mul, Rat.intCast_natCast]
  have := ku_mul
  generalize (KN : Rat) = k at *
  grind
/-- rounding keeps between two floats -/
theorem rnd_le {X : Rat} {r y : UInt64} (h : Rnd X r) (hy : Fin y) (hle : X ≤ fv y) : fv r ≤ fv y := h.up y hy hle
theorem rnd_ge {X : Rat} {r y : UInt64} (h : Rnd X r) (hy : Fin y) (hle : fv y ≤ X) : fv y ≤ fv r := h.dn y hy hle
/-- the product of two in [0, 1] -/
theorem unit_mul {x y : UInt64} (hx : Fin x) (hy : Fin y) (x0 : 0 ≤ fv x) (x1 : fv x ≤ 1) (y0 : 0 ≤ fv y) (y1 : fv y ≤ 1) : Ap (mul x y) (fv x * fv y) uu ∧ 0 ≤ fv (mul x y) ∧ fv (mul x y) ≤ fv x ∧ fv (mul x y) ≤ 1 := by
  have m := Rat.mul_nonneg x0 y0
  have m2 := Rat.mul_nonneg x0 (show 0 ≤ 1 - fv y by grind)
  have hr := mul_rnd hx hy (big_of (by grind) (by grind))
  have h1 := rnd_le hr hx (by grind)
  have h0 := rnd_ge hr fin_z (by rw [fv_z]; exact m)
  rw [fv_z] at h0
  exact ⟨rnd_ap hr (by grind) (by grind), h0, h1, by grind⟩
theorem unit_sub {x : UInt64} (hx : Fin x) (x0 : 0 ≤ fv x) (x1 : fv x ≤ 1) : Ap (sub c1 x) (1 - fv x) uu ∧ 0 ≤ fv (sub c1 x) ∧ fv (sub c1 x) ≤ 1 := by
  have hr := sub_rnd fin_c1 hx (big_of (by rw [fv_c1]; grind) (by rw [fv_c1]; grind))
  rw [fv_c1] at hr
  have h1 := rnd_le hr fin_c1 (by rw [fv_c1]; grind)
  have h0 := rnd_ge hr fin_z (by rw [fv_z]; grind)
  rw [fv_z] at h0
  rw [fv_c1] at h1
  exact ⟨rnd_ap hr (by grind) (by grind), h0, h1⟩
theorem uu0 : (0 : Rat) ≤ uu := by decide +kernel
/-- v * (1 - s * w) -/
theorem vsw {v s w : UInt64} (hv : Fin v) (hs : Fin s) (hw : Fin w) (v0 : 0 ≤ fv v) (v1 : fv v ≤ 1) (s0 : 0 ≤ fv s) (s1 : fv s ≤ 1) (w0 : 0 ≤ fv w) (w1 : fv w ≤ 1) :
    Ap (mul v (sub c1 (mul s w))) (fv v * (1 - fv s * fv w)) (3 * uu) ∧ fv (mul v (sub c1 (mul s w))) ≤ fv v := by
  obtain ⟨a, a0, _, a1⟩ := unit_mul hs hw s0 s1 w0 w1
  obtain ⟨b, b0, b1⟩ := unit_sub a.fin a0 a1
  obtain ⟨c, c0, c1', _⟩ := unit_mul hv b.fin v0 v1 b0 b1
  refine ⟨⟨c.fin, ?_, ?_⟩, c1'⟩
  · have := a.lo; have := a.hi; have := b.lo; have := b.hi; have := c.lo
    have m := rabs_mul (a := fv v) (b := fv (sub c1 (mul s w)) - (1 - fv s * fv w)) (A := 1) (B := 2 * uu) (by grind) (by grind) (by grind) (by grind)
    have e : fv v * (fv (sub c1 (mul s w)) - (1 - fv s * fv w)) = fv v * fv (sub c1 (mul s w)) - fv v * (1 - fv s * fv w) := by grind
    grind
  · have := a.lo; have := a.hi; have := b.lo; have := b.hi; have := c.hi
    have m := rabs_mul (a := fv v) (b := fv (sub c1 (mul s w)) - (1 - fv s * fv w)) (A := 1) (B := 2 * uu) (by grind) (by grind) (by grind) (by grind)
    have e : fv v * (fv (sub c1 (mul s w)) - (1 - fv s * fv w)) = fv v * fv (sub c1 (mul s w)) - fv v * (1 - fv s * fv w) := by grind
    grind
theorem vs1 {v s : UInt64} (hv : Fin v) (hs : Fin s) (v0 : 0 ≤ fv v) (v1 : fv v ≤ 1) (s0 : 0 ≤ fv s) (s1 : fv s ≤ 1) :
    Ap (mul v (sub c1 s)) (fv v * (1 - fv s)) (3 * uu) ∧ fv (mul v (sub c1 s)) ≤ fv v := by
  obtain ⟨b, b0, b1⟩ := unit_sub hs s0 s1
  obtain ⟨c, c0, c1', _⟩ := unit_mul hv b.fin v0 v1 b0 b1
  have := uu0
  refine ⟨⟨c.fin, ?_, ?_⟩, c1'⟩
  · have := b.lo; have := b.hi; have := c.lo
    have m := rabs_mul (a := fv v) (b := fv (sub c1 s) - (1 - fv s)) (A := 1) (B := uu) (by grind) (by grind) (by grind) (by grind)
    grind
  · have := b.lo; have := b.hi; have := c.hi
    have m := rabs_mul (a := fv v) (b := fv (sub c1 s) - (1 - fv s)) (A := 1) (B := uu) (by grind) (by grind) (by grind) (by grind)
    grind
/-- the sector and what is left -/
theorem sec_spec {h : UInt64} (hh : Fin h) (h0 : 0 ≤ fv h) (h1 : fv h ≤ 5) : Fin (mul h c6) ∧ (sec h).natAbs ≤ 2 ^ 53 ∧ Fin (frc h) ∧ 0 ≤ fv (frc h) ∧ fv (frc h) ≤ 1 ∧ 0 ≤ sec h ∧ -(3 * uu) ≤ (sec h : Rat) + fv (frc h) - 6 * fv h ∧ (sec h : Rat) + fv (frc h) - 6 * fv h ≤ 3 * uu := by
  have hr := mul_rnd hh fin_c6 (big_of (by rw [fv_c6]; grind) (by rw [fv_c6]; grind))
  rw [fv_c6] at hr
  have ha := rnd_apk 5 32 (2 * uu) hr (by decide +kernel) (by grind) (by grind) (by decide +kernel)
  have hp := rnd_ge hr fin_z (by rw [fv_z]; grind)
  rw [fv_z] at hp
  have hv0 : 0 ≤ val (mul h c6) := by
    have : fv 0 ≤ fv (mul h c6) := by rw [fv_z]; exact hp
    rw [fv_le] at this
    have e : val 0 = 0 := by kernel_rfl
    rw [e] at this; exact this
  obtain ⟨t1, t2⟩ := trunc_spec hr.fin hv0
  have hku := ku_mul
  have hkp := ku_pos
  have hK := KN_posR
  have s1 : (sec h : Rat) ≤ fv (mul h c6) := by
    have : ((sec h * (KN : Int) : Int) : Rat) ≤ (val (mul h c6) : Rat) := Rat.intCast_le_intCast.mpr t1
    rw [Rat.intCast_mul, Rat.intCast_natCast] at this
    have := Rat.mul_le_mul_of_nonneg_right this (Rat.le_of_lt hkp)
    rw [Rat.mul_assoc, Rat.mul_comm (KN : Rat) ku, hku, Rat.mul_one] at this
    exact this
  have s2 : fv (mul h c6) < (sec h : Rat) + 1 := by
    have : (val (mul h c6) : Rat) < (((sec h + 1) * (KN : Int) : Int) : Rat) := Rat.intCast_lt_intCast.mpr t2
    rw [Rat.intCast_mul, Rat.intCast_natCast, Rat.intCast_add] at this
    have := Rat.mul_lt_mul_of_pos_right this hkp
    have e1 : ((1 : Int) : Rat) = 1 := rfl
    rw [e1, Rat.mul_assoc, Rat.mul_comm (KN : Rat) ku, hku, Rat.mul_one] at this
    exact this
  have hi := ha.hi
  have hlo := ha.lo
  have usm : uu ≤ 1 := by decide +kernel
  have n0 : 0 ≤ sec h := by
    have : ((0 : Int) : Rat) < (sec h : Rat) + 1 := by have e : ((0 : Int) : Rat) = 0 := rfl; rw [e]; grind
    exact int_lt_of this
  have n1 : sec h ≤ 40 := by
    apply Rat.intCast_le_intCast.mp
    have e : ((40 : Int) : Rat) = 40 := rfl
    rw [e]; grind
  have hn : (sec h).natAbs ≤ 2 ^ 53 := by
    have : (sec h).natAbs ≤ 40 := by omega
    exact Nat.le_trans this (by decide)
  obtain ⟨io, iv⟩ := ofInt_exact hn
  have hf := sub_rnd hr.fin io (big_of (by rw [iv]; grind) (by rw [iv]; grind))
  rw [iv] at hf
  have f0 := rnd_ge hf fin_z (by rw [fv_z]; grind)
  have f1 := rnd_le hf fin_c1 (by rw [fv_c1]; grind)
  rw [fv_z] at f0
  rw [fv_c1] at f1
  have fa := rnd_ap hf (by grind) (by grind)
  have := fa.lo
  have := fa.hi
  refine ⟨hr.fin, hn, fa.fin, f0, f1, n0, ?_, ?_⟩ <;> (show _ ≤ _; unfold frc; grind)
theorem hsv_of {v s w : Rat} {r : UInt64} {t e f g : Rat} (hr : Ap r (v * (1 - s * w)) e) (v0 : 0 ≤ v) (v1 : v ≤ 1) (s0 : 0 ≤ s) (s1 : s ≤ 1) (ht : -f ≤ (1 - t) - w) (ht' : (1 - t) - w ≤ f) (hg : e + f ≤ g) : Ap r (v * (1 - s * (1 - t))) g := by
  have m1 := rabs_mul (a := v) (b := s) (A := 1) (B := 1) (by grind) (by grind) (by grind) (by grind)
  have m2 := rabs_mul (a := v * s) (b := (1 - t) - w) (A := 1) (B := f) (by grind) (by grind) (by grind) (by grind)
  have := hr.lo; have := hr.hi
  exact ⟨hr.fin, by grind, by grind⟩
/-- one component's place -/
theorem tz_near {i j : Int} {φ y c m e : Rat} (k : Int) (hi : i = 6 * k + j) (h1 : -e ≤ (i : Rat) + φ - y) (h2 : (i : Rat) + φ - y ≤ e) (q : Int) (hm : (j : Rat) + φ + c - 6 * (q : Rat) = m) (m0 : 0 ≤ m) (m6 : m ≤ 6) : -e ≤ tz (y + c) - tr m ∧ tz (y + c) - tr m ≤ e := by
  subst hi
  have e1 : ((6 * k + j : Int) : Rat) = 6 * (k : Rat) + (j : Rat) := by rw [Rat.intCast_add, Rat.intCast_mul]; rfl
  have hz : tz (((6 * k + j : Int) : Rat) + φ + c) = tr m := by
    rw [tz_at (k + q) (by rw [e1, Rat.intCast_add]; grind) (by rw [e1, Rat.intCast_add]; grind), e1, Rat.intCast_add]
    congr 1; grind
  rw [← hz]
  have l1 := tz_lip (x := y + c) (y := ((6 * k + j : Int) : Rat) + φ + c) (e := e) (by grind) (by grind)
  have l2 := tz_lip (y := y + c) (x := ((6 * k + j : Int) : Rat) + φ + c) (e := e) (by grind) (by grind)
  constructor <;> grind
theorem comp_n {v s w : Rat} {r : UInt64} {y m : Rat} (hr : Ap r (v * (1 - s * w)) (3 * uu)) (v0 : 0 ≤ v) (v1 : v ≤ 1) (s0 : 0 ≤ s) (s1 : s ≤ 1) (H : -(3 * uu) ≤ tz y - tr m ∧ tz y - tr m ≤ 3 * uu) (h1 : -uu ≤ (1 - tr m) - w) (h2 : (1 - tr m) - w ≤ uu) : Ap r (v * (1 - s * (1 - tz y))) (8 * uu) := by
  have := uu0
  exact hsv_of (f := 4 * uu) hr v0 v1 s0 s1 (by grind) (by grind) (by grind)
/-- the trapezoid in each sector -/
theorem tr_s0 {x : Rat} (h0 : 0 ≤ x) (h1 : x ≤ 1) : tr (((0 : Int) : Rat) + x) = x := by
  rw [show ((0 : Int) : Rat) = 0 from rfl]; unfold tr; grind
theorem tr_s1 {x : Rat} (h0 : 0 ≤ x) (h1 : x ≤ 1) : tr (((1 : Int) : Rat) + x) = 1 := by
  rw [show ((1 : Int) : Rat) = 1 from rfl]; unfold tr; grind
theorem tr_s2 {x : Rat} (h0 : 0 ≤ x) (h1 : x ≤ 1) : tr (((2 : Int) : Rat) + x) = 1 := by
  rw [show ((2 : Int) : Rat) = 2 from rfl]; unfold tr; grind
theorem tr_s3 {x : Rat} (h0 : 0 ≤ x) (h1 : x ≤ 1) : tr (((3 : Int) : Rat) + x) = 1 - x := by
  rw [show ((3 : Int) : Rat) = 3 from rfl]; unfold tr; grind
theorem tr_s4 {x : Rat} (h0 : 0 ≤ x) (h1 : x ≤ 1) : tr (((4 : Int) : Rat) + x) = 0 := by
  rw [show ((4 : Int) : Rat) = 4 from rfl]; unfold tr; grind
theorem tr_s5 {x : Rat} (h0 : 0 ≤ x) (h1 : x ≤ 1) : tr (((5 : Int) : Rat) + x) = 0 := by
  rw [show ((5 : Int) : Rat) = 5 from rfl]; unfold tr; grind
theorem tz_sec {i j n q c : Int} {x y e T : Rat} (k : Int) (h0 : 0 ≤ x) (h1 : x ≤ 1) (h2 : -e ≤ (i : Rat) + x - y) (h3 : (i : Rat) + x - y ≤ e) (hi : i = 6 * k + j) (hn : j + c = 6 * q + n) (n0 : 0 ≤ n) (n5 : n ≤ 5) (hT : tr ((n : Rat) + x) = T) :
    -e ≤ tz (y + (c : Rat)) - T ∧ tz (y + (c : Rat)) - T ≤ e := by
  rw [← hT]
  have a0 := Rat.intCast_le_intCast.mpr n0
  have a5 := Rat.intCast_le_intCast.mpr n5
  have e0 : ((0 : Int) : Rat) = 0 := rfl
  have e5 : ((5 : Int) : Rat) = 5 := rfl
  have e6 : ((6 : Int) : Rat) = 6 := rfl
  rw [e0] at a0; rw [e5] at a5
  have hc := congrArg (fun z : Int => (z : Rat)) hn
  simp only [Rat.intCast_add, Rat.intCast_mul, e6] at hc
  exact tz_near k hi h2 h3 q (by grind) (by grind) (by grind)
/-- z is 1 - x but for a rounding -/
noncomputable abbrev Ap2 (z x : Rat) : Prop := -uu ≤ z - (1 - x) ∧ z - (1 - x) ≤ uu
section
variable {v s x y : Rat} {r : UInt64} (v0 : 0 ≤ v) (v1 : v ≤ 1) (s0 : 0 ≤ s) (s1 : s ≤ 1)
include v0 v1 s0 s1
theorem comp_v (hr : Ap r (v * (1 - s * 0)) (3 * uu)) (H : -(3 * uu) ≤ tz y - 1 ∧ tz y - 1 ≤ 3 * uu) : Ap r (v * (1 - s * (1 - tz y))) (8 * uu) := by
  have := uu0
  exact hsv_of (f := 4 * uu) hr v0 v1 s0 s1 (by grind) (by grind) (by grind)
theorem comp_p (hr : Ap r (v * (1 - s * 1)) (3 * uu)) (H : -(3 * uu) ≤ tz y - 0 ∧ tz y - 0 ≤ 3 * uu) : Ap r (v * (1 - s * (1 - tz y))) (8 * uu) := by
  have := uu0
  exact hsv_of (f := 4 * uu) hr v0 v1 s0 s1 (by grind) (by grind) (by grind)
theorem comp_q (hr : Ap r (v * (1 - s * x)) (3 * uu)) (H : -(3 * uu) ≤ tz y - (1 - x) ∧ tz y - (1 - x) ≤ 3 * uu) : Ap r (v * (1 - s * (1 - tz y))) (8 * uu) := by
  have := uu0
  exact hsv_of (f := 4 * uu) hr v0 v1 s0 s1 (by grind) (by grind) (by grind)
theorem comp_t {z : Rat} (hz : Ap2 z x) (hr : Ap r (v * (1 - s * z)) (3 * uu)) (H : -(3 * uu) ≤ tz y - x ∧ tz y - x ≤ 3 * uu) : Ap r (v * (1 - s * (1 - tz y))) (8 * uu) := by
  have := uu0
  obtain ⟨z1, z2⟩ := hz
  exact hsv_of (f := 4 * uu) hr v0 v1 s0 s1 (by grind) (by grind) (by grind)
end
theorem hsv_ap {h s v : UInt64} (hh : Fin h) (hs : Fin s) (hv : Fin v) (h0 : 0 ≤ fv h) (h1 : fv h ≤ 5) (s0 : 0 ≤ fv s) (s1 : fv s ≤ 1) (v0 : 0 ≤ fv v) (v1 : fv v ≤ 1) :
    Ap (hsvR h s v) (fv v * (1 - fv s * (1 - tz (6 * fv h + 2)))) (8 * uu) ∧ Ap (hsvG h s v) (fv v * (1 - fv s * (1 - tz (6 * fv h + 0)))) (8 * uu) ∧ Ap (hsvB h s v) (fv v * (1 - fv s * (1 - tz (6 * fv h + -2)))) (8 * uu) ∧
    fv (hsvR h s v) ≤ fv v ∧ fv (hsvG h s v) ≤ fv v ∧ fv (hsvB h s v) ≤ fv v ∧ (hsvR h s v = v ∨ hsvG h s v = v ∨ hsvB h s v = v) := by
  have u0 := uu0
  by_cases hz : feq s 0 = true
  · have es : fv s = 0 := by rw [← fv_z]; exact (feq_iff hs fin_z).mp hz
    have e1 : hsvR h s v = v := by unfold hsvR; rw [if_pos hz]
    have e2 : hsvG h s v = v := by unfold hsvG; rw [if_pos hz]
    have e3 : hsvB h s v = v := by unfold hsvB; rw [if_pos hz]
    rw [e1, e2, e3, es]
    refine ⟨⟨hv, ?_, ?_⟩, ⟨hv, ?_, ?_⟩, ⟨hv, ?_, ?_⟩, ?_, ?_, ?_, Or.inl rfl⟩ <;> grind
  · obtain ⟨_, _, ff, f0, f1, _, c1, c2⟩ := sec_spec hh h0 h1
    obtain ⟨g, g0, g1⟩ := unit_sub ff f0 f1
    have g2 := g.lo
    have g3 := g.hi
    obtain ⟨pA, pL⟩ := vs1 hv hs v0 v1 s0 s1
    obtain ⟨qA, qL⟩ := vsw hv hs ff v0 v1 s0 s1 f0 f1
    obtain ⟨tA, tL⟩ := vsw hv hs g.fin v0 v1 s0 s1 g0 g1
    have hvv : Ap v (fv v * (1 - fv s * 0)) (3 * uu) := ⟨hv, by grind, by grind⟩
    have hpp : Ap (vP s v) (fv v * (1 - fv s * 1)) (3 * uu) := by
      have : fv v * (1 - fv s * 1) = fv v * (1 - fv s) := by grind
      rw [this]; exact pA
    have hqq : Ap (vQ h s v) (fv v * (1 - fv s * fv (frc h))) (3 * uu) := qA
    have htt : Ap (vT h s v) (fv v * (1 - fv s * fv (sub Mine.c1 (frc h)))) (3 * uu) := tA
    have hz2 : Ap2 (fv (sub Mine.c1 (frc h))) (fv (frc h)) := ⟨by grind, by grind⟩
    have six := fmod6 (sec h)
    have hdm : sec h = 6 * (sec h).fdiv 6 + (sec h).fmod 6 := (Int.mul_fdiv_add_fmod (sec h) 6).symm
    generalize (sec h).fdiv 6 = k at *
    rcases six with e | e | e | e | e | e <;> rw [e] at hdm
    · rw [show hsvR h s v = v from by unfold hsvR; rw [if_neg hz, if_pos e], show hsvG h s v = vT h s v from by unfold hsvG; rw [if_neg hz, if_pos e], show hsvB h s v = vP s v from by unfold hsvB; rw [if_neg hz, if_pos e]]
      exact ⟨comp_v v0 v1 s0 s1 hvv (tz_sec (c := 2) (n := 2) (q := 0) k f0 f1 c1 c2 hdm (by decide) (by decide) (by decide) (tr_s2 f0 f1)),
        comp_t v0 v1 s0 s1 hz2 htt (tz_sec (c := 0) (n := 0) (q := 0) k f0 f1 c1 c2 hdm (by decide) (by decide) (by decide) (tr_s0 f0 f1)),
        comp_p v0 v1 s0 s1 hpp (tz_sec (c := -2) (n := 4) (q := -1) k f0 f1 c1 c2 hdm (by decide) (by decide) (by decide) (tr_s4 f0 f1)), Rat.le_refl, tL, pL, Or.inl rfl⟩
    · rw [show hsvR h s v = vQ h s v from by unfold hsvR; rw [if_neg hz, if_neg (by rw [e]; decide), if_pos e], show hsvG h s v = v from by unfold hsvG; rw [if_neg hz, if_neg (by rw [e]; decide), if_pos e], show hsvB h s v = vP s v from by unfold hsvB; rw [if_neg hz, if_neg (by rw [e]; decide), if_pos e]]
      exact ⟨comp_q v0 v1 s0 s1 hqq (tz_sec (c := 2) (n := 3) (q := 0) k f0 f1 c1 c2 hdm (by decide) (by decide) (by decide) (tr_s3 f0 f1)),
        comp_v v0 v1 s0 s1 hvv (tz_sec (c := 0) (n := 1) (q := 0) k f0 f1 c1 c2 hdm (by decide) (by decide) (by decide) (tr_s1 f0 f1)),
        comp_p v0 v1 s0 s1 hpp (tz_sec (c := -2) (n := 5) (q := -1) k f0 f1 c1 c2 hdm (by decide) (by decide) (by decide) (tr_s5 f0 f1)), qL, Rat.le_refl, pL, Or.inr (Or.inl rfl)⟩
    · rw [show hsvR h s v = vP s v from by unfold hsvR; rw [if_neg hz, if_neg (by rw [e]; decide), if_neg (by rw [e]; decide), if_pos e], show hsvG h s v = v from by unfold hsvG; rw [if_neg hz, if_neg (by rw [e]; decide), if_neg (by rw [e]; decide), if_pos e], show hsvB h s v = vT h s v from by unfold hsvB; rw [if_neg hz, if_neg (by rw [e]; decide), if_neg (by rw [e]; decide), if_pos e]]
      exact ⟨comp_p v0 v1 s0 s1 hpp (tz_sec (c := 2) (n := 4) (q := 0) k f0 f1 c1 c2 hdm (by decide) (by decide) (by decide) (tr_s4 f0 f1)),
        comp_v v0 v1 s0 s1 hvv (tz_sec (c := 0) (n := 2) (q := 0) k f0 f1 c1 c2 hdm (by decide) (by decide) (by decide) (tr_s2 f0 f1)),
        comp_t v0 v1 s0 s1 hz2 htt (tz_sec (c := -2) (n := 0) (q := 0) k f0 f1 c1 c2 hdm (by decide) (by decide) (by decide) (tr_s0 f0 f1)), pL, Rat.le_refl, tL, Or.inr (Or.inl rfl)⟩
    · rw [show hsvR h s v = vP s v from by unfold hsvR; rw [if_neg hz, if_neg (by rw [e]; decide), if_neg (by rw [e]; decide), if_neg (by rw [e]; decide), if_pos e], show hsvG h s v = vQ h s v from by unfold hsvG; rw [if_neg hz, if_neg (by rw [e]; decide), if_neg (by rw [e]; decide), if_neg (by rw [e]; decide), if_pos e], show hsvB h s v = v from by unfold hsvB; rw [if_neg hz, if_neg (by rw [e]; decide), if_neg (by rw [e]; decide), if_neg (by rw [e]; decide), if_pos e]]
      exact ⟨comp_p v0 v1 s0 s1 hpp (tz_sec (c := 2) (n := 5) (q := 0) k f0 f1 c1 c2 hdm (by decide) (by decide) (by decide) (tr_s5 f0 f1)),
        comp_q v0 v1 s0 s1 hqq (tz_sec (c := 0) (n := 3) (q := 0) k f0 f1 c1 c2 hdm (by decide) (by decide) (by decide) (tr_s3 f0 f1)),
        comp_v v0 v1 s0 s1 hvv (tz_sec (c := -2) (n := 1) (q := 0) k f0 f1 c1 c2 hdm (by decide) (by decide) (by decide) (tr_s1 f0 f1)), pL, qL, Rat.le_refl, Or.inr (Or.inr rfl)⟩
    · rw [show hsvR h s v = vT h s v from by unfold hsvR; rw [if_neg hz, if_neg (by rw [e]; decide), if_neg (by rw [e]; decide), if_neg (by rw [e]; decide), if_neg (by rw [e]; decide), if_pos e], show hsvG h s v = vP s v from by unfold hsvG; rw [if_neg hz, if_neg (by rw [e]; decide), if_neg (by rw [e]; decide), if_neg (by rw [e]; decide), if_neg (by rw [e]; decide), if_pos e], show hsvB h s v = v from by unfold hsvB; rw [if_neg hz, if_neg (by rw [e]; decide), if_neg (by rw [e]; decide), if_neg (by rw [e]; decide), if_neg (by rw [e]; decide), if_pos e]]
      exact ⟨comp_t v0 v1 s0 s1 hz2 htt (tz_sec (c := 2) (n := 0) (q := 1) k f0 f1 c1 c2 hdm (by decide) (by decide) (by decide) (tr_s0 f0 f1)),
        comp_p v0 v1 s0 s1 hpp (tz_sec (c := 0) (n := 4) (q := 0) k f0 f1 c1 c2 hdm (by decide) (by decide) (by decide) (tr_s4 f0 f1)),
        comp_v v0 v1 s0 s1 hvv (tz_sec (c := -2) (n := 2) (q := 0) k f0 f1 c1 c2 hdm (by decide) (by decide) (by decide) (tr_s2 f0 f1)), tL, pL, Rat.le_refl, Or.inr (Or.inr rfl)⟩
    · rw [show hsvR h s v = v from by unfold hsvR; rw [if_neg hz, if_neg (by rw [e]; decide), if_neg (by rw [e]; decide), if_neg (by rw [e]; decide), if_neg (by rw [e]; decide), if_neg (by rw [e]; decide)], show hsvG h s v = vP s v from by unfold hsvG; rw [if_neg hz, if_neg (by rw [e]; decide), if_neg (by rw [e]; decide), if_neg (by rw [e]; decide), if_neg (by rw [e]; decide), if_neg (by rw [e]; decide)], show hsvB h s v = vQ h s v from by unfold hsvB; rw [if_neg hz, if_neg (by rw [e]; decide), if_neg (by rw [e]; decide), if_neg (by rw [e]; decide), if_neg (by rw [e]; decide), if_neg (by rw [e]; decide)]]
      exact ⟨comp_v v0 v1 s0 s1 hvv (tz_sec (c := 2) (n := 1) (q := 1) k f0 f1 c1 c2 hdm (by decide) (by decide) (by decide) (tr_s1 f0 f1)),
        comp_p v0 v1 s0 s1 hpp (tz_sec (c := 0) (n := 5) (q := 0) k f0 f1 c1 c2 hdm (by decide) (by decide) (by decide) (tr_s5 f0 f1)),
        comp_q v0 v1 s0 s1 hqq (tz_sec (c := -2) (n := 3) (q := 0) k f0 f1 c1 c2 hdm (by decide) (by decide) (by decide) (tr_s3 f0 f1)), Rat.le_refl, pL, qL, Or.inl rfl⟩
end
end
section
section
open PySem PySem.Flt PySem.Float64
theorem fin_six : Fin cSixth := fin_of (by kernel_rfl)
theorem fin_third : Fin cThird := fin_of (by kernel_rfl)
theorem fin_two : Fin cTwoThird := fin_of (by kernel_rfl)
theorem fv_six : fv cSixth = 6004799503160661 / 36028797018963968 := by
  have := const_fv (c := cSixth) (n := 6004799503160661) (d := 36028797018963968) (by decide) (by kernel_rfl)
  rw [this]; decide +kernel
theorem fv_third : fv cThird = 6004799503160661 / 18014398509481984 := by
  have := const_fv (c := cThird) (n := 6004799503160661) (d := 18014398509481984) (by decide) (by kernel_rfl)
  rw [this]; decide +kernel
theorem fv_two : fv cTwoThird = 6004799503160661 / 9007199254740992 := by
  have := const_fv (c := cTwoThird) (n := 6004799503160661) (d := 9007199254740992) (by decide) (by kernel_rfl)
  rw [this]; decide +kernel
theorem not_flt {x y : UInt64} (hx : Fin x) (hy : Fin y) (h : ¬ flt x y = true) : fv y ≤ fv x := by
  rw [flt_iff hx hy] at h; grind
theorem not_fle {x y : UInt64} (hx : Fin x) (hy : Fin y) (h : ¬ fle x y = true) : fv y < fv x := by
  rw [fle_iff hx hy] at h; grind
theorem lerp {r : UInt64} {M1 D t t' e g : Rat} (h : Ap r (M1 + D * t) e) (hD : -3 ≤ D) (hD' : D ≤ 3) (f : Rat) (h1 : -f ≤ t - t') (h2 : t - t' ≤ f) (hg : e + 3 * f ≤ g) : Ap r (M1 + D * t') g := by
  have m := rabs_mul (a := D) (b := t - t') (A := 3) (B := f) hD hD' h1 h2
  have := h.lo; have := h.hi
  exact ⟨h.fin, by grind, by grind⟩
theorem fv6_ap {m1 m2 hue : UInt64} (h1 : Fin m1) (h2 : Fin m2) (hh : Fin hue) (a0 : -1 ≤ fv m1) (a1 : fv m1 ≤ 2) (b0 : -1 ≤ fv m2) (b1 : fv m2 ≤ 2) :
    Ap (fv6 m1 m2 hue) (fv m1 + (fv m2 - fv m1) * tz (6 * fv hue)) (40 * uu) := by
  have u0 := uu0
  have us : uu ≤ 1 / 1000000 := by decide +kernel
  have f6 := fv_six
  have f3 := fv_two
  have fh := fv_half
  obtain ⟨k, pa, p0, p1, _, _, _⟩ := mod1 hh
  generalize hp : (divmod hue c1).2 = p at *
  have pf := pa.fin
  have l1 := pa.lo
  have l2 := pa.hi
  have hd : Ap (sub m2 m1) (fv m2 - fv m1) uu := (ap_sub (ap_self h2) (ap_self h1) (by grind) (by grind) (by grind) (g := uu) (by grind))
  have hz1 : tz (6 * fv p) = tr (6 * fv p) := by
    have := tz_at (y := 6 * fv p) 0 (by have e : ((0 : Int) : Rat) = 0 := rfl; rw [e]; grind) (by have e : ((0 : Int) : Rat) = 0 := rfl; rw [e]; grind)
    rw [this]; congr 1
    have e : ((0 : Int) : Rat) = 0 := rfl
    rw [e]; grind
  have hz2 : tz (6 * fv hue + 6 * ((-k : Int) : Rat)) = tz (6 * fv hue) := tz_add6 _ _
  rw [Rat.intCast_neg] at hz2
  have z1 := tz_lip (x := 6 * fv p) (y := 6 * fv hue + 6 * -(k : Rat)) (e := 6 * uu) (by grind) (by grind)
  have z2 := tz_lip (y := 6 * fv p) (x := 6 * fv hue + 6 * -(k : Rat)) (e := 6 * uu) (by grind) (by grind)
  rw [hz2, hz1] at z1 z2
  -- by the ways
  have main : ∃ t, Ap (fv6 m1 m2 hue) (fv m1 + (fv m2 - fv m1) * t) (16 * uu) ∧ -uu ≤ t - tr (6 * fv p) ∧ t - tr (6 * fv p) ≤ uu := by
    unfold fv6
    rw [hp]
    by_cases c : flt p cSixth = true
    · rw [if_pos c]
      have c' := (flt_iff pf fin_six).mp c
      rw [f6] at c'
      refine ⟨6 * fv p, ?_, by unfold tr; grind, by unfold tr; grind⟩
      have q1 := ap_mul (g := 2 * uu) 3 1 hd (ap_self pf) (by grind) (by grind) (by grind) (by grind) (by grind) (by grind)
      have m := rabs_mul (a := fv m2 - fv m1) (b := fv p) (A := 3) (B := 1 / 5) (by grind) (by grind) (by grind) (by grind)
      have q2 := ap_mul (g := 13 * uu) 1 6 q1 (ap_self fin_c6) (by grind) (by grind) (by rw [fv_c6]; grind) (by rw [fv_c6]; grind) (by grind) (by grind)
      rw [fv_c6] at q2
      have q3 := ap_add (g := 16 * uu) (ap_self h1) q2 (by grind) (by grind) (by grind) (by grind)
      have e : fv m1 + (fv m2 - fv m1) * (6 * fv p) = fv m1 + (fv m2 - fv m1) * fv p * 6 := by grind
      rw [e]; exact q3
    · rw [if_neg c]
      have c' := not_flt pf fin_six c
      rw [f6] at c'
      by_cases d : flt p cHalf = true
      · rw [if_pos d]
        have d' := (flt_iff pf fin_half).mp d
        rw [fh] at d'
        exact ⟨1, ⟨h2, by grind, by grind⟩, by unfold tr; grind, by unfold tr; grind⟩
      · rw [if_neg d]
        have d' := not_flt pf fin_half d
        rw [fh] at d'
        by_cases x : flt p cTwoThird = true
        · rw [if_pos x]
          have x' := (flt_iff pf fin_two).mp x
          rw [f3] at x'
          refine ⟨6 * (2 / 3 - fv p), ?_, by unfold tr; grind, by unfold tr; grind⟩
          have q0 := (sub_rnd fin_two pf (big_of (by rw [f3]; grind) (by rw [f3]; grind)))
          rw [f3] at q0
          have q0' := rnd_apk 0 1 (uu / 16) q0 (by decide +kernel) (by grind) (by grind) (by decide +kernel)
          have i1 := q0'.lo
          have i2 := q0'.hi
          have q00 : Ap (sub cTwoThird p) (2 / 3 - fv p) (uu / 3) := ⟨q0'.fin, by grind, by grind⟩
          have q1 := ap_mul (g := 2 * uu + uu / 4) 3 (1 / 5) hd q00 (by grind) (by grind) (by grind) (by grind) (by grind) (by grind)
          have m := rabs_mul (a := fv m2 - fv m1) (b := 2 / 3 - fv p) (A := 3) (B := 1 / 5) (by grind) (by grind) (by grind) (by grind)
          have q2 := ap_mul (g := 14 * uu + uu / 2) 1 6 q1 (ap_self fin_c6) (by grind) (by grind) (by rw [fv_c6]; grind) (by rw [fv_c6]; grind) (by grind) (by grind)
          rw [fv_c6] at q2
          have q3 := ap_add (g := 16 * uu) (ap_self h1) q2 (by grind) (by grind) (by grind) (by grind)
          have e : fv m1 + (fv m2 - fv m1) * (6 * (2 / 3 - fv p)) = fv m1 + (fv m2 - fv m1) * (2 / 3 - fv p) * 6 := by grind
          rw [e]; exact q3
        · rw [if_neg x]
          have x' := not_flt pf fin_two x
          rw [f3] at x'
          exact ⟨0, ⟨h1, by grind, by grind⟩, by unfold tr; grind, by unfold tr; grind⟩
  obtain ⟨t, ma, mb, mc⟩ := main
  exact lerp ma (by grind) (by grind) (7 * uu) (by grind) (by grind) (by grind)
end
end
section
section
open PySem PySem.Flt PySem.Float64
/-- the lesser of l and 1 - l -/
noncomputable def mn1 (l : Rat) : Rat := if l ≤ 1 / 2 then l else 1 - l
theorem mn1_b {l : Rat} (h0 : 0 ≤ l) (h1 : l ≤ 1) : 0 ≤ mn1 l ∧ mn1 l ≤ 1 / 2 := by unfold mn1; grind
theorem mn1_lip {a b e : Rat} (h1 : a - b ≤ e) (h2 : b - a ≤ e) : mn1 a - mn1 b ≤ e := by unfold mn1; grind
theorem m2_ap {l s : UInt64} (hl : Fin l) (hs : Fin s) (l0 : 0 ≤ fv l) (l1 : fv l ≤ 1) (s0 : 0 ≤ fv s) (s1 : fv s ≤ 101 / 100) : Ap (lM2 l s) (fv l + fv s * mn1 (fv l)) (4 * uu) := by
  have u0 := uu0
  have us : uu ≤ 1 / 1000000 := by decide +kernel
  have m := rabs_mul (a := fv l) (b := fv s) (A := 1) (B := 101 / 100) (by grind) (by grind) (by grind) (by grind)
  unfold lM2
  by_cases c : fle l cHalf = true
  · rw [if_pos c]
    have c' := (fle_iff hl fin_half).mp c
    rw [fv_half] at c'
    have q1 := ap_add (g := uu) (ap_self fin_c1) (ap_self hs) (by rw [fv_c1]; grind) (by rw [fv_c1]; grind) (by grind) (by grind)
    rw [fv_c1] at q1
    have q2 := ap_mul (g := 4 * uu) 1 3 (ap_self hl) q1 (by grind) (by grind) (by grind) (by grind) (by grind) (by grind)
    have e : fv l + fv s * mn1 (fv l) = fv l * (1 + fv s) := by unfold mn1; rw [if_pos c']; grind
    rw [e]; exact q2
  · rw [if_neg c]
    have c' := not_fle hl fin_half c
    rw [fv_half] at c'
    have q1 := ap_add (g := uu) (ap_self hl) (ap_self hs) (by grind) (by grind) (by grind) (by grind)
    have q2 := ap_mul (g := uu) 1 2 (ap_self hl) (ap_self hs) (by grind) (by grind) (by grind) (by grind) (by grind) (by grind)
    have q3 := ap_sub (g := 4 * uu) q1 q2 (by grind) (by grind) (by grind) (by grind)
    have e : fv l + fv s * mn1 (fv l) = fv l + fv s - fv l * fv s := by unfold mn1; rw [if_neg (by grind)]; grind
    rw [e]; exact q3
theorem m1_ap {l s : UInt64} (hl : Fin l) (hs : Fin s) (l0 : 0 ≤ fv l) (l1 : fv l ≤ 1) (s0 : 0 ≤ fv s) (s1 : fv s ≤ 101 / 100) : Ap (lM1 l s) (fv l - fv s * mn1 (fv l)) (6 * uu) := by
  have u0 := uu0
  have us : uu ≤ 1 / 1000000 := by decide +kernel
  have h2 := m2_ap hl hs l0 l1 s0 s1
  have hb := mn1_b l0 l1
  have m := rabs_mul (a := fv s) (b := mn1 (fv l)) (A := 101 / 100) (B := 1) (by grind) (by grind) (by grind) (by grind)
  have q1 := ap_mul (g := uu) 2 1 (ap_self fin_c2) (ap_self hl) (by rw [fv_c2]; grind) (by rw [fv_c2]; grind) (by grind) (by grind) (by grind) (by grind)
  rw [fv_c2] at q1
  have q2 := ap_sub (g := 6 * uu) q1 h2 (by grind) (by grind) (by grind) (by grind)
  have e : fv l - fv s * mn1 (fv l) = 2 * fv l - (fv l + fv s * mn1 (fv l)) := by grind
  unfold lM1
  rw [e]; exact q2
/-- one component of hls_to_rgb -/
theorem hls_one {l s hue : UInt64} {y : Rat} (hl : Fin l) (hs : Fin s) (hh : Fin hue) (l0 : 0 ≤ fv l) (l1 : fv l ≤ 1) (s0 : 0 ≤ fv s) (s1 : fv s ≤ 101 / 100) (y1 : -(20 * uu) ≤ 6 * fv hue - y) (y2 : 6 * fv hue - y ≤ 20 * uu) :
    Ap (fv6 (lM1 l s) (lM2 l s) hue) (fv l + fv s * mn1 (fv l) * (2 * tz y - 1)) (120 * uu) := by
  have u0 := uu0
  have us : uu ≤ 1 / 1000000 := by decide +kernel
  have h1 := m1_ap hl hs l0 l1 s0 s1
  have h2 := m2_ap hl hs l0 l1 s0 s1
  have hb := mn1_b l0 l1
  have m := rabs_mul (a := fv s) (b := mn1 (fv l)) (A := 101 / 100) (B := 1 / 2) (by grind) (by grind) (by grind) (by grind)
  have a1 := h1.lo; have a2 := h1.hi; have a3 := h2.lo; have a4 := h2.hi
  have q := fv6_ap h1.fin h2.fin hh (by grind) (by grind) (by grind) (by grind)
  have z1 := tz_lip (x := 6 * fv hue) (y := y) (e := 20 * uu) (by grind) (by grind)
  have z2 := tz_lip (y := 6 * fv hue) (x := y) (e := 20 * uu) (by grind) (by grind)
  have q' := lerp (g := 100 * uu) q (by grind) (by grind) (20 * uu) (t' := tz y) (by grind) (by grind) (by grind)
  have tb := tz_b y
  have b1 := q'.lo; have b2 := q'.hi
  generalize tz y = t at *
  generalize hX : fv s * mn1 (fv l) = X at *
  have n1 := rabs_mul (a := fv (lM1 l s) - (fv l - X)) (b := 1 - t) (A := 6 * uu) (B := 1) (by grind) (by grind) (by grind) (by grind)
  have n2 := rabs_mul (a := fv (lM2 l s) - (fv l + X)) (b := t) (A := 4 * uu) (B := 1) (by grind) (by grind) (by grind) (by grind)
  exact ⟨q'.fin, by grind, by grind⟩
theorem hls_ap {h l s : UInt64} (hh : Fin h) (hl : Fin l) (hs : Fin s) (h0 : -5 ≤ fv h) (h1 : fv h ≤ 5) (l0 : 0 ≤ fv l) (l1 : fv l ≤ 1) (s0 : 0 ≤ fv s) (s1 : fv s ≤ 101 / 100) :
    Ap (hlsR h l s) (fv l + fv s * mn1 (fv l) * (2 * tz (6 * fv h + 2) - 1)) (120 * uu) ∧ Ap (hlsG h l s) (fv l + fv s * mn1 (fv l) * (2 * tz (6 * fv h + 0) - 1)) (120 * uu) ∧ Ap (hlsB h l s) (fv l + fv s * mn1 (fv l) * (2 * tz (6 * fv h + -2) - 1)) (120 * uu) := by
  have u0 := uu0
  by_cases hz : feq s 0 = true
  · have es : fv s = 0 := by rw [← fv_z]; exact (feq_iff hs fin_z).mp hz
    have e1 : hlsR h l s = l := by unfold hlsR; rw [if_pos hz]
    have e2 : hlsG h l s = l := by unfold hlsG; rw [if_pos hz]
    have e3 : hlsB h l s = l := by unfold hlsB; rw [if_pos hz]
    rw [e1, e2, e3, es]
    refine ⟨⟨hl, ?_, ?_⟩, ⟨hl, ?_, ?_⟩, ⟨hl, ?_, ?_⟩⟩ <;> grind
  · have ft := fv_third
    have p := ap_add (g := uu) (ap_self hh) (ap_self fin_third) (by rw [ft]; grind) (by rw [ft]; grind) (by grind) (by grind)
    have q := ap_sub (g := uu) (ap_self hh) (ap_self fin_third) (by rw [ft]; grind) (by rw [ft]; grind) (by grind) (by grind)
    rw [ft] at p q
    have := p.lo; have := p.hi; have := q.lo; have := q.hi
    unfold hlsR hlsG hlsB
    rw [if_neg hz, if_neg hz, if_neg hz]
    exact ⟨hls_one hl hs p.fin l0 l1 s0 s1 (by grind) (by grind), hls_one hl hs hh l0 l1 s0 s1 (by grind) (by grind), hls_one hl hs q.fin l0 l1 s0 s1 (by grind) (by grind)⟩
end
end
section
section
open PySem PySem.Flt PySem.Float64
theorem ap_const {c : UInt64} {n : Int} {d : Nat} {X e : Rat} (hf : isFinite c = true) (hd : d ≠ 0) (h : val c * d = n * 2 ^ 1074) (h1 : X - e ≤ (n : Rat) / (d : Rat)) (h2 : (n : Rat) / (d : Rat) ≤ X + e) : Ap c X e := by
  have hv := const_fv hd h
  exact ⟨fin_of hf, by rw [hv]; exact h1, by rw [hv]; exact h2⟩
theorem ap_k30 : Ap 4599075939470750515 (3 / 10) (uu / 2) := ap_const (n := 5404319552844595) (d := 18014398509481984) (by kernel_rfl) (by decide) (by kernel_rfl) (by decide +kernel) (by decide +kernel)
theorem ap_k59 : Ap 4603489467105573601 (59 / 100) (uu / 2) := ap_const (n := 5314247560297185) (d := 9007199254740992) (by kernel_rfl) (by decide) (by kernel_rfl) (by decide +kernel) (by decide +kernel)
theorem ap_k11 : Ap 4592590756007337001 (11 / 100) (uu / 2) := ap_const (n := 7926335344172073) (d := 72057594037927936) (by kernel_rfl) (by decide) (by kernel_rfl) (by decide +kernel) (by decide +kernel)
theorem ap_k74 : Ap 4604840546993784750 (37 / 50) (uu / 2) := ap_const (n := 3332663724254167) (d := 4503599627370496) (by kernel_rfl) (by decide) (by kernel_rfl) (by decide +kernel) (by decide +kernel)
theorem ap_k27 : Ap 4598535507515466056 (27 / 100) (uu / 2) := ap_const (n := 607985949695017) (d := 2251799813685248) (by kernel_rfl) (by decide) (by kernel_rfl) (by decide +kernel) (by decide +kernel)
theorem ap_k48 : Ap 4602318531202457272 (12 / 25) (uu / 2) := ap_const (n := 1080863910568919) (d := 2251799813685248) (by kernel_rfl) (by decide) (by kernel_rfl) (by decide +kernel) (by decide +kernel)
theorem ap_k41 : Ap 4601057523306793533 (41 / 100) (uu / 2) := ap_const (n := 7385903388887613) (d := 18014398509481984) (by kernel_rfl) (by decide) (by kernel_rfl) (by decide +kernel) (by decide +kernel)
theorem ap_ra : Ap 4606703976345377586 (410 / 433) (uu / 2) := ap_const (n := 4264378400050585) (d := 4503599627370496) (by kernel_rfl) (by decide) (by kernel_rfl) (by decide +kernel) (by decide +kernel)
theorem ap_rb : Ap 4603791717925830846 (270 / 433) (uu / 2) := ap_const (n := 2808249190277215) (d := 4503599627370496) (by kernel_rfl) (by decide) (by kernel_rfl) (by decide +kernel) (by decide +kernel)
theorem ap_ga : Ap 4598621754083818298 (7020 / 25547) (uu / 2) := ap_const (n := 2475067082956189) (d := 9007199254740992) (by kernel_rfl) (by decide) (by kernel_rfl) (by decide +kernel) (by decide +kernel)
theorem ap_gb : Ap 4603901015759978483 (16240 / 25547) (uu / 2) := ap_const (n := 5725796214702067) (d := 9007199254740992) (by kernel_rfl) (by decide) (by kernel_rfl) (by decide +kernel) (by decide +kernel)
theorem ap_ba : Ap 4607671262177584182 (480 / 433) (uu / 2) := ap_const (n := 2496221502468635) (d := 2251799813685248) (by kernel_rfl) (by decide) (by kernel_rfl) (by decide +kernel) (by decide +kernel)
theorem ap_bb : Ap 4610375502138591871 (740 / 433) (uu / 2) := ap_const (n := 7696682965944959) (d := 4503599627370496) (by kernel_rfl) (by decide) (by kernel_rfl) (by decide +kernel) (by decide +kernel)
section
variable {r g b : UInt64} {R G B : Rat}
theorem yiqY_ap (hr : Ap r R uu) (hg : Ap g G uu) (hb : Ap b B uu) (r0 : 0 ≤ R) (r1 : R ≤ 1) (g0 : 0 ≤ G) (g1 : G ≤ 1) (b0 : 0 ≤ B) (b1 : B ≤ 1) : Ap (yiqY r g b) (3 / 10 * R + 59 / 100 * G + 11 / 100 * B) (12 * uu) := by
  have u0 := uu0
  have us : uu ≤ 1 / 1000000 := by decide +kernel
  have m1 := ap_mul (g := 3 * uu) 1 1 ap_k30 hr (by grind) (by grind) (by grind) (by grind) (by grind) (by grind)
  have m2 := ap_mul (g := 3 * uu) 1 1 ap_k59 hg (by grind) (by grind) (by grind) (by grind) (by grind) (by grind)
  have m3 := ap_mul (g := 3 * uu) 1 1 ap_k11 hb (by grind) (by grind) (by grind) (by grind) (by grind) (by grind)
  have a1 := ap_add (g := 7 * uu) m1 m2 (by grind) (by grind) (by grind) (by grind)
  exact ap_add (g := 12 * uu) a1 m3 (by grind) (by grind) (by grind) (by grind)
theorem yiqI_ap (hr : Ap r R uu) (hg : Ap g G uu) (hb : Ap b B uu) (r0 : 0 ≤ R) (r1 : R ≤ 1) (g0 : 0 ≤ G) (g1 : G ≤ 1) (b0 : 0 ≤ B) (b1 : B ≤ 1) : Ap (yiqI r g b) (599 / 1000 * R - 2773 / 10000 * G - 3217 / 10000 * B) (30 * uu) := by
  have u0 := uu0
  have us : uu ≤ 1 / 1000000 := by decide +kernel
  have y := yiqY_ap hr hg hb r0 r1 g0 g1 b0 b1
  have d1 := ap_sub (g := 14 * uu) hr y (by grind) (by grind) (by grind) (by grind)
  have d2 := ap_sub (g := 14 * uu) hb y (by grind) (by grind) (by grind) (by grind)
  have m1 := ap_mul (g := 13 * uu) (3 / 4) 1 ap_k74 d1 (by grind) (by grind) (by grind) (by grind) (by grind) (by grind)
  have m2 := ap_mul (g := 7 * uu) (3 / 10) 1 ap_k27 d2 (by grind) (by grind) (by grind) (by grind) (by grind) (by grind)
  have e := ap_sub (g := 30 * uu) m1 m2 (by grind) (by grind) (by grind) (by grind)
  have h : 599 / 1000 * R - 2773 / 10000 * G - 3217 / 10000 * B = 37 / 50 * (R - (3 / 10 * R + 59 / 100 * G + 11 / 100 * B)) - 27 / 100 * (B - (3 / 10 * R + 59 / 100 * G + 11 / 100 * B)) := by grind
  rw [h]; exact e
theorem yiqQ_ap (hr : Ap r R uu) (hg : Ap g G uu) (hb : Ap b B uu) (r0 : 0 ≤ R) (r1 : R ≤ 1) (g0 : 0 ≤ G) (g1 : G ≤ 1) (b0 : 0 ≤ B) (b1 : B ≤ 1) : Ap (yiqQ r g b) (213 / 1000 * R - 5251 / 10000 * G + 3121 / 10000 * B) (30 * uu) := by
  have u0 := uu0
  have us : uu ≤ 1 / 1000000 := by decide +kernel
  have y := yiqY_ap hr hg hb r0 r1 g0 g1 b0 b1
  have d1 := ap_sub (g := 14 * uu) hr y (by grind) (by grind) (by grind) (by grind)
  have d2 := ap_sub (g := 14 * uu) hb y (by grind) (by grind) (by grind) (by grind)
  have m1 := ap_mul (g := 10 * uu) (1 / 2) 1 ap_k48 d1 (by grind) (by grind) (by grind) (by grind) (by grind) (by grind)
  have m2 := ap_mul (g := 10 * uu) (1 / 2) 1 ap_k41 d2 (by grind) (by grind) (by grind) (by grind) (by grind) (by grind)
  have e := ap_add (g := 30 * uu) m1 m2 (by grind) (by grind) (by grind) (by grind)
  have h : 213 / 1000 * R - 5251 / 10000 * G + 3121 / 10000 * B = 12 / 25 * (R - (3 / 10 * R + 59 / 100 * G + 11 / 100 * B)) + 41 / 100 * (B - (3 / 10 * R + 59 / 100 * G + 11 / 100 * B)) := by grind
  rw [h]; exact e
end
noncomputable def cl01 (x : Rat) : Rat := if x ≤ 0 then 0 else if 1 ≤ x then 1 else x
theorem clamp_ap {x : UInt64} {X e : Rat} (h : Ap x X e) : Ap (clampF x) (cl01 X) e := by
  have h1 := h.lo; have h2 := h.hi
  have he : 0 ≤ e := by grind
  unfold clampF
  by_cases c : flt x 0 = true
  · rw [if_pos c]
    have c' := (flt_iff h.fin fin_z).mp c
    rw [fv_z] at c'
    exact ⟨fin_z, by rw [fv_z]; unfold cl01; grind, by rw [fv_z]; unfold cl01; grind⟩
  · rw [if_neg c]
    have c' := not_flt h.fin fin_z c
    rw [fv_z] at c'
    by_cases d : fgt x c1 = true
    · rw [if_pos d]
      have d' := (fgt_iff h.fin fin_c1).mp d
      rw [fv_c1] at d'
      exact ⟨fin_c1, by rw [fv_c1]; unfold cl01; grind, by rw [fv_c1]; unfold cl01; grind⟩
    · rw [if_neg d]
      have d' : fv x ≤ 1 := by
        rw [fgt_iff h.fin fin_c1, fv_c1] at d; grind
      exact ⟨h.fin, by unfold cl01; grind, by unfold cl01; grind⟩
section
variable {y i q : UInt64} {Y I Q e : Rat} (hy : Ap y Y e) (hi : Ap i I e) (hq : Ap q Q e) (y0 : -4 ≤ Y) (y1 : Y ≤ 4) (i0 : -3 ≤ I) (i1 : I ≤ 3) (q0 : -3 ≤ Q) (q1 : Q ≤ 3) (e0 : 0 ≤ e) (e1 : e ≤ 1 / 1000)
include hy hi hq y0 y1 i0 i1 q0 q1 e0 e1
theorem yR_ap : Ap (yR y i q) (cl01 (Y + 410 / 433 * I + 270 / 433 * Q)) (4 * e + 10 * uu) := by
  have u0 := uu0
  have us : uu ≤ 1 / 1000000 := by decide +kernel
  have m1 := ap_mul (g := 11 / 10 * e + 3 * uu) (1) 3 ap_ra hi (by grind) (by grind) (by grind) (by grind) (by grind) (by grind)
  have m2 := ap_mul (g := 11 / 10 * e + 3 * uu) (1) 3 ap_rb hq (by grind) (by grind) (by grind) (by grind) (by grind) (by grind)
  have a1 := ap_add (g := 21 / 10 * e + 4 * uu) hy m1 (by grind) (by grind) (by grind) (by grind)
  exact clamp_ap (ap_add (g := 4 * e + 10 * uu) a1 m2 (by grind) (by grind) (by grind) (by grind))
theorem yG_ap : Ap (yG y i q) (cl01 (Y - 7020 / 25547 * I - 16240 / 25547 * Q)) (4 * e + 10 * uu) := by
  have u0 := uu0
  have us : uu ≤ 1 / 1000000 := by decide +kernel
  have m1 := ap_mul (g := 11 / 10 * e + 3 * uu) (1) 3 ap_ga hi (by grind) (by grind) (by grind) (by grind) (by grind) (by grind)
  have m2 := ap_mul (g := 11 / 10 * e + 3 * uu) (1) 3 ap_gb hq (by grind) (by grind) (by grind) (by grind) (by grind) (by grind)
  have a1 := ap_sub (g := 21 / 10 * e + 4 * uu) hy m1 (by grind) (by grind) (by grind) (by grind)
  exact clamp_ap (ap_sub (g := 4 * e + 10 * uu) a1 m2 (by grind) (by grind) (by grind) (by grind))
theorem yB_ap : Ap (yB y i q) (cl01 (Y - 480 / 433 * I + 740 / 433 * Q)) (4 * e + 10 * uu) := by
  have u0 := uu0
  have us : uu ≤ 1 / 1000000 := by decide +kernel
  have m1 := ap_mul (g := 112 / 100 * e + 3 * uu) (111 / 100) 3 ap_ba hi (by grind) (by grind) (by grind) (by grind) (by grind) (by grind)
  have m2 := ap_mul (g := 172 / 100 * e + 3 * uu) (171 / 100) 3 ap_bb hq (by grind) (by grind) (by grind) (by grind) (by grind) (by grind)
  have a1 := ap_sub (g := 212 / 100 * e + 4 * uu) hy m1 (by grind) (by grind) (by grind) (by grind)
  exact clamp_ap (ap_add (g := 4 * e + 10 * uu) a1 m2 (by grind) (by grind) (by grind) (by grind))
end
end
end
section
section
open PySem PySem.Flt PySem.Float64
theorem uus : uu ≤ 1 / 1000000 := by decide +kernel
theorem castR_pos {t : Int} (h : 0 < t) : (0 : Rat) < (t : Rat) := by
  have := Rat.intCast_lt_intCast.mpr h
  exact this
theorem castR_le {a b : Int} (h : a ≤ b) : (a : Rat) ≤ (b : Rat) := Rat.intCast_le_intCast.mpr h
theorem castR_nn {t : Int} (h : 0 ≤ t) : (0 : Rat) ≤ (t : Rat) := by
  have := Rat.intCast_le_intCast.mpr h
  exact this
theorem div_le_of {a b t : Rat} (ht : 0 < t) (h : a ≤ b * t) : a / t ≤ b := by
  apply Rat.le_of_mul_le_mul_right _ ht
  have : a / t * t = a := by grind
  rw [this]; exact h
theorem le_div_of {a b t : Rat} (ht : 0 < t) (h : b * t ≤ a) : b ≤ a / t := by
  apply Rat.le_of_mul_le_mul_right _ ht
  have : a / t * t = a := by grind
  rw [this]; exact h
theorem div_le_div {a b t : Rat} (ht : 0 < t) (h : a ≤ b) : a / t ≤ b / t := by
  apply div_le_of ht
  have : b / t * t = b := by grind
  rw [this]; exact h
/-- the depth -/
structure Dep (top : Int) : Prop where
  p : 0 < top
  q : top ≤ 16384
theorem Dep.r {top : Int} (h : Dep top) : (1 : Rat) ≤ (top : Rat) ∧ (top : Rat) ≤ 16384 := by
  have h1 : (((1 : Int)) : Rat) ≤ (top : Rat) := Rat.intCast_le_intCast.mpr (by have := h.p; omega)
  have h2 : (top : Rat) ≤ ((16384 : Int) : Rat) := Rat.intCast_le_intCast.mpr h.q
  exact ⟨h1, h2⟩
theorem sh_rnd {a t : Int} (ht : t ≠ 0) (hb : Big ((a : Rat) / t)) : Rnd ((a : Rat) / t) (sh a t) := by
  rw [sh_def]; exact ofFrac_rnd ht hb
theorem sh_ap {a top : Int} (ht : Dep top) (h0 : 0 ≤ a) (h1 : a ≤ top) : Ap (sh a top) ((a : Rat) / top) (uu / 16) ∧ 0 ≤ fv (sh a top) ∧ fv (sh a top) ≤ 1 := by
  have tp := castR_pos ht.p
  have a0 := castR_nn h0
  have a1 := castR_le h1
  have b0 : 0 ≤ (a : Rat) / top := le_div_of tp (by grind)
  have b1 : (a : Rat) / top ≤ 1 := div_le_of tp (by grind)
  have hr := sh_rnd (a := a) (t := top) (by have := ht.p; omega) (big_of (by grind) (by grind))
  have h0 := rnd_ge hr fin_z (by rw [fv_z]; exact b0)
  have h1 := rnd_le hr fin_c1 (by rw [fv_c1]; exact b1)
  rw [fv_z] at h0
  rw [fv_c1] at h1
  exact ⟨rnd_apk 0 1 (uu / 16) hr (by decide +kernel) (by grind) (by grind) (by decide +kernel), h0, h1⟩
theorem sh_lt {a b top : Int} (ht : Dep top) (h0 : 0 ≤ a) (hb : b ≤ top) (h : a < b) : fv (sh a top) < fv (sh b top) := by
  obtain ⟨pa, _, _⟩ := sh_ap ht h0 (by omega)
  obtain ⟨pb, _, _⟩ := sh_ap ht (show 0 ≤ b by omega) hb
  have := pa.hi; have := pb.lo
  have tp := castR_pos ht.p
  have t2 := ht.r.2
  have hab : (a : Rat) + 1 ≤ (b : Rat) := by
    have := castR_le (show a + 1 ≤ b by omega)
    rw [Rat.intCast_add] at this; exact this
  have h1 : ((a : Rat) + 1) / top ≤ (b : Rat) / top := div_le_div tp hab
  have h2 : 1 / 16384 ≤ 1 / (top : Rat) := by
    apply le_div_of tp; grind
  have h3 : ((a : Rat) + 1) / top = (a : Rat) / top + 1 / top := by grind
  have us : uu ≤ 1 / 1000000 := uus
  grind
theorem sh_le_iff {a b top : Int} (ht : Dep top) (a0 : 0 ≤ a) (a1 : a ≤ top) (b0 : 0 ≤ b) (b1 : b ≤ top) : fv (sh a top) ≤ fv (sh b top) ↔ a ≤ b := by
  constructor
  · intro h
    rcases Int.lt_or_le b a with c | c
    · have := sh_lt ht b0 a1 c; exfalso; grind
    · exact c
  · intro h
    rcases Int.lt_or_le a b with c | c
    · exact Rat.le_of_lt (sh_lt ht a0 b1 c)
    · have : a = b := by omega
      rw [this]; exact Rat.le_refl
theorem sh_feq {a b top : Int} (ht : Dep top) (a0 : 0 ≤ a) (a1 : a ≤ top) (b0 : 0 ≤ b) (b1 : b ≤ top) : feq (sh a top) (sh b top) = true ↔ a = b := by
  rw [feq_iff (sh_ap ht a0 a1).1.fin (sh_ap ht b0 b1).1.fin]
  have i1 := sh_le_iff ht a0 a1 b0 b1
  have i2 := sh_le_iff ht b0 b1 a0 a1
  constructor
  · intro h
    have := i1.mp (by rw [h]; exact Rat.le_refl)
    have := i2.mp (by rw [h]; exact Rat.le_refl)
    omega
  · intro h; rw [h]
theorem sh_flt {a b top : Int} (ht : Dep top) (a0 : 0 ≤ a) (a1 : a ≤ top) (b0 : 0 ≤ b) (b1 : b ≤ top) : flt (sh a top) (sh b top) = true ↔ a < b := by
  rw [flt_iff (sh_ap ht a0 a1).1.fin (sh_ap ht b0 b1).1.fin]
  have i2 := sh_le_iff ht b0 b1 a0 a1
  rw [← Rat.not_le, i2]; omega
end
end
section
section
open PySem PySem.Flt PySem.Float64
/-- a colour of whole numbers with its greatest and least -/
structure Col (r g b top M m : Int) : Prop where
  d : Dep top
  r0 : 0 ≤ r
  r1 : r ≤ top
  g0 : 0 ≤ g
  g1 : g ≤ top
  b0 : 0 ≤ b
  b1 : b ≤ top
  hM : max (max r g) b = M
  hm : min (min r g) b = m
section
variable {r g b top M m : Int} (C : Col r g b top M m)
include C
theorem Col.bd : (m ≤ r ∧ r ≤ M) ∧ (m ≤ g ∧ g ≤ M) ∧ (m ≤ b ∧ b ≤ M) := by
  have h1 := C.hM; have h2 := C.hm
  subst h1 h2
  exact ⟨⟨Int.le_trans (Int.min_le_left _ _) (Int.min_le_left _ _), Int.le_trans (Int.le_max_left _ _) (Int.le_max_left _ _)⟩, ⟨Int.le_trans (Int.min_le_left _ _) (Int.min_le_right _ _), Int.le_trans (Int.le_max_right _ _) (Int.le_max_left _ _)⟩, Int.min_le_right _ _, Int.le_max_right _ _⟩
theorem Col.M0 : 0 ≤ M ∧ M ≤ top ∧ 0 ≤ m ∧ m ≤ top ∧ m ≤ M := by
  have h := C.bd
  refine ⟨Int.le_trans C.r0 h.1.2, ?_, ?_, Int.le_trans h.1.1 C.r1, Int.le_trans h.1.1 h.1.2⟩
  · rw [← C.hM]; exact Int.max_le.mpr ⟨Int.max_le.mpr ⟨C.r1, C.g1⟩, C.b1⟩
  · rw [← C.hm]; exact Int.le_min.mpr ⟨Int.le_min.mpr ⟨C.r0, C.g0⟩, C.b0⟩
theorem Col.att : (r = M ∨ g = M ∨ b = M) ∧ (r = m ∨ g = m ∨ b = m) := by
  have h1 := C.hM; have h2 := C.hm
  clear C
  constructor
  · rcases Int.le_total r g with x | x
    · rw [Int.max_eq_right x] at h1
      rcases Int.le_total g b with y | y
      · rw [Int.max_eq_right y] at h1; exact Or.inr (Or.inr h1)
      · rw [Int.max_eq_left y] at h1; exact Or.inr (Or.inl h1)
    · rw [Int.max_eq_left x] at h1
      rcases Int.le_total r b with y | y
      · rw [Int.max_eq_right y] at h1; exact Or.inr (Or.inr h1)
      · rw [Int.max_eq_left y] at h1; exact Or.inl h1
  · rcases Int.le_total r g with x | x
    · rw [Int.min_eq_left x] at h2
      rcases Int.le_total r b with y | y
      · rw [Int.min_eq_left y] at h2; exact Or.inl h2
      · rw [Int.min_eq_right y] at h2; exact Or.inr (Or.inr h2)
    · rw [Int.min_eq_right x] at h2
      rcases Int.le_total g b with y | y
      · rw [Int.min_eq_left y] at h2; exact Or.inr (Or.inl h2)
      · rw [Int.min_eq_right y] at h2; exact Or.inr (Or.inr h2)
theorem Col.sM : Ap (sh M top) ((M : Rat) / top) (uu / 16) ∧ 0 ≤ fv (sh M top) ∧ fv (sh M top) ≤ 1 := sh_ap C.d C.M0.1 C.M0.2.1
theorem Col.sm : Ap (sh m top) ((m : Rat) / top) (uu / 16) ∧ 0 ≤ fv (sh m top) ∧ fv (sh m top) ≤ 1 := sh_ap C.d C.M0.2.2.1 C.M0.2.2.2.1
theorem fmax2_sh {a c : Int} (d : Dep top) (a0 : 0 ≤ a) (a1 : a ≤ top) (c0 : 0 ≤ c) (c1 : c ≤ top) : fmax2 (sh a top) (sh c top) = sh (max a c) top := by
  have i := sh_flt d a0 a1 c0 c1
  unfold flt at i
  unfold fmax2
  by_cases h : a < c
  · rw [if_pos (i.mpr h)]; congr 1; omega
  · rw [if_neg (fun e => h (i.mp e))]; congr 1; omega
theorem fmin2_sh {a c : Int} (d : Dep top) (a0 : 0 ≤ a) (a1 : a ≤ top) (c0 : 0 ≤ c) (c1 : c ≤ top) : fmin2 (sh a top) (sh c top) = sh (min a c) top := by
  have i := sh_flt d c0 c1 a0 a1
  unfold flt at i
  unfold fmin2
  by_cases h : c < a
  · rw [if_pos (i.mpr h)]; congr 1; omega
  · rw [if_neg (fun e => h (i.mp e))]; congr 1; omega
theorem Col.max : fmax3 (sh r top) (sh g top) (sh b top) = sh M top := by
  have := C.r0; have := C.r1; have := C.g0; have := C.g1; have := C.b0; have := C.b1; have := C.hM
  unfold fmax3
  rw [fmax2_sh C C.d C.r0 C.r1 C.g0 C.g1, fmax2_sh C C.d (by omega) (by omega) C.b0 C.b1, C.hM]
theorem Col.min : fmin3 (sh r top) (sh g top) (sh b top) = sh m top := by
  have := C.r0; have := C.r1; have := C.g0; have := C.g1; have := C.b0; have := C.b1; have := C.hm
  unfold fmin3
  rw [fmin2_sh C C.d C.r0 C.r1 C.g0 C.g1, fmin2_sh C C.d (by omega) (by omega) C.b0 C.b1, C.hm]
theorem Col.grey : grey (sh r top) (sh g top) (sh b top) = true ↔ M - m = 0 := by
  have := C.M0
  unfold Mine.grey
  rw [C.max, C.min, sh_feq C.d (by omega) (by omega) (by omega) (by omega)]
  omega
theorem Col.kap (h : M - m ≠ 0) : (1 : Rat) ≤ ((M - m : Int) : Rat) ∧ ((M - m : Int) : Rat) ≤ (top : Rat) := by
  have := C.M0
  have h1 := castR_le (show 1 ≤ M - m by omega)
  have h2 := castR_le (show M - m ≤ top by omega)
  exact ⟨h1, h2⟩
theorem Col.rg_ap : Ap (rg (sh r top) (sh g top) (sh b top)) (((M - m : Int) : Rat) / top) (2 * uu) := by
  have tp := castR_pos C.d.p
  have us := uus
  have u0 := uu0
  obtain ⟨a, a0, a1⟩ := C.sM
  obtain ⟨c, c0, c1⟩ := C.sm
  have := C.M0
  have k0 : 0 ≤ (M : Rat) / top := le_div_of tp (by have := castR_nn C.M0.1; grind)
  have k1 : (M : Rat) / top ≤ 1 := div_le_of tp (by have := castR_le C.M0.2.1; grind)
  have k2 : 0 ≤ (m : Rat) / top := le_div_of tp (by have := castR_nn C.M0.2.2.1; grind)
  have k3 : (m : Rat) / top ≤ 1 := div_le_of tp (by have := castR_le C.M0.2.2.2.1; grind)
  have q := ap_sub (g := 2 * uu) a c (by grind) (by grind) (by grind) (by grind)
  unfold rg
  rw [C.max, C.min, Rat.intCast_sub]
  have e : ((M : Rat) - m) / top = (M : Rat) / top - m / top := by grind
  rw [e]; exact q
end
end
end
section
section
open PySem PySem.Flt PySem.Float64
theorem quo {u t s : Rat} (hs : 0 < s) : u * t / s * s = u * t := by grind
theorem quo_ge {u t s : Rat} (hu : 0 ≤ u) (hs : 0 < s) (h : s ≤ t) : u ≤ u * t / s := by
  apply le_div_of hs
  have := Rat.mul_le_mul_of_nonneg_left h hu
  exact this
theorem quo_le {u t s : Rat} (hu : 0 ≤ u) (hs : 1 ≤ s) (h0 : 0 ≤ t) (h : t ≤ 16384) : u * t / s ≤ 16384 * u := by
  apply div_le_of (by grind)
  have h1 := Rat.mul_le_mul_of_nonneg_left h hu
  have h2 := Rat.mul_le_mul_of_nonneg_left hs (show 0 ≤ 16384 * u by grind)
  grind
theorem halfm {k y u : Rat} (c : Rat) (h : k * y = u) : c * k * (y / 2) = c / 2 * u := by grind
theorem canc {u t s : Rat} (ht : 0 < t) (hs : 0 < s) : u * t / s * (s / t) = u := by grind
/-- the place of the hue, in sixths of the spread -/
noncomputable def hn (r g b M sp : Int) : Int := if r = M then (if g < b then g - b + 6 * sp else g - b) else if g = M then 2 * sp + (b - r) else 4 * sp + (r - g)
section
variable {r g b top M m : Int} (C : Col r g b top M m)
include C
theorem Col.cc_ap (h : M - m ≠ 0) {x : Int} (x0 : m ≤ x) (x1 : x ≤ M) : Ap (cc (sh r top) (sh g top) (sh b top) (sh x top)) (((M - x : Int) : Rat) / ((M - m : Int) : Rat)) (9 * (uu * top / ((M - m : Int) : Rat))) := by
  have tp := castR_pos C.d.p
  have t2 := C.d.r.2
  have us := uus
  have u0 := uu0
  have hM := C.M0
  obtain ⟨k1, k2⟩ := C.kap h
  obtain ⟨a, a0, a1⟩ := C.sM
  obtain ⟨c, c0, c1⟩ := sh_ap C.d (show 0 ≤ x by omega) (show x ≤ top by omega)
  have hr := C.rg_ap
  have x2 := castR_nn (show 0 ≤ M - x by omega)
  have x3 := castR_le (show M - x ≤ M - m by omega)
  have e1 : (M : Rat) / top - x / top = ((M - x : Int) : Rat) / top := by rw [Rat.intCast_sub]; grind
  generalize hsp : ((M - m : Int) : Rat) = sp at *
  generalize hz : ((M - x : Int) : Rat) = z at *
  have y0 : 0 ≤ z / top := le_div_of tp (by grind)
  have y1 : z / top ≤ 1 := div_le_of tp (by grind)
  have q := ap_sub (g := 2 * uu) a c (by grind) (by grind) (by grind) (by grind)
  rw [e1] at q
  have hspp : 0 < sp := by grind
  have e2 : z / top = z / sp * (sp / top) := by grind
  rw [e2] at q
  have z0 : 0 ≤ z / sp := le_div_of hspp (by grind)
  have z1 : z / sp ≤ 1 := div_le_of hspp (by grind)
  have l1 : 1 / 16384 ≤ sp / top := by
    have h1 : 1 / (top : Rat) ≤ sp / top := div_le_div tp k1
    have h2 : 1 / 16384 ≤ 1 / (top : Rat) := le_div_of tp (by grind)
    grind
  have g1 := quo_ge u0 hspp k2
  have g2 := quo_le u0 k1 (Rat.le_of_lt tp) t2
  have e3 := halfm 8 (canc (u := uu) tp hspp)
  have q2 := ap_div (g := 9 * (uu * top / sp)) 1 (sp / top) (8 * (uu * top / sp)) q hr (by grind) (by grind) (by grind) (by grind) (by grind) (by rw [e3]; grind) (by grind) (by grind) (by grind)
  unfold cc
  rw [C.max]
  exact q2
theorem Col.hue6_ap (h : M - m ≠ 0) : ∃ y : Int, y = (if r = M then g - b else if g = M then 2 * (M - m) + (b - r) else 4 * (M - m) + (r - g)) ∧ Ap (hue6 (sh r top) (sh g top) (sh b top)) ((y : Rat) / ((M - m : Int) : Rat)) (20 * (uu * top / ((M - m : Int) : Rat))) ∧ (y = 0 → fv (hue6 (sh r top) (sh g top) (sh b top)) = 0) := by
  refine ⟨_, rfl, ?_⟩
  have tp := castR_pos C.d.p
  have t2 := C.d.r.2
  have us := uus
  have u0 := uu0
  have hM := C.M0
  obtain ⟨⟨i1, i2⟩, ⟨i3, i4⟩, i5, i6⟩ := C.bd
  obtain ⟨k1, k2⟩ := C.kap h
  have cr := C.cc_ap h (x := r) (by omega) (by omega)
  have cg := C.cc_ap h (x := g) (by omega) (by omega)
  have cb := C.cc_ap h (x := b) (by omega) (by omega)
  have g1 := quo_ge u0 (show 0 < ((M - m : Int) : Rat) by grind) k2
  have g2 := quo_le u0 k1 (Rat.le_of_lt tp) t2
  have hspp : 0 < ((M - m : Int) : Rat) := by grind
  have bnd : ∀ x : Int, m ≤ x → x ≤ M → 0 ≤ ((M - x : Int) : Rat) / ((M - m : Int) : Rat) ∧ ((M - x : Int) : Rat) / ((M - m : Int) : Rat) ≤ 1 := fun x x0 x1 => by
    have x2 := castR_nn (show 0 ≤ M - x by omega)
    have x3 := castR_le (show M - x ≤ M - m by omega)
    exact ⟨le_div_of hspp (by grind), div_le_of hspp (by grind)⟩
  have br := bnd r (by omega) (by omega)
  have bg := bnd g (by omega) (by omega)
  have bb := bnd b (by omega) (by omega)
  have er := sh_feq C.d C.r0 C.r1 hM.1 hM.2.1
  have eg := sh_feq C.d C.g0 C.g1 hM.1 hM.2.1
  unfold hue6
  rw [C.max]
  by_cases c : r = M
  · rw [if_pos (er.mpr c), if_pos c]
    refine ⟨?_, fun hy => ?_⟩
    · have q := ap_sub (g := 20 * (uu * top / ((M - m : Int) : Rat))) cb cg (by grind) (by grind) (by grind) (by grind)
      have e : ((g - b : Int) : Rat) / ((M - m : Int) : Rat) = ((M - b : Int) : Rat) / ((M - m : Int) : Rat) - ((M - g : Int) : Rat) / ((M - m : Int) : Rat) := by
        generalize ((M - m : Int) : Rat) = sp at *
        rw [Rat.intCast_sub, Rat.intCast_sub, Rat.intCast_sub]; grind
      rw [e]; exact q
    · have e : g = b := by omega
      subst e
      have hz : fv (cc (sh r top) (sh g top) (sh g top) (sh g top)) - fv (cc (sh r top) (sh g top) (sh g top) (sh g top)) = 0 := by grind
      have q := sub_rnd cg.fin cg.fin (big_of (by rw [hz]; decide +kernel) (by rw [hz]; decide +kernel))
      rw [hz] at q
      have l1 := rnd_le q fin_z (by rw [fv_z]; exact Rat.le_refl)
      have l2 := rnd_ge q fin_z (by rw [fv_z]; exact Rat.le_refl)
      rw [fv_z] at l1 l2
      exact Rat.le_antisymm l1 l2
  · rw [if_neg (fun e => c (er.mp e)), if_neg c]
    by_cases d : g = M
    · rw [if_pos (eg.mpr d), if_pos d]
      refine ⟨?_, fun hy => by exfalso; omega⟩
      have q0 := ap_add (g := 10 * (uu * top / ((M - m : Int) : Rat))) (ap_self fin_c2) cr (by rw [fv_c2]; grind) (by rw [fv_c2]; grind) (by grind) (by grind)
      rw [fv_c2] at q0
      have q := ap_sub (g := 20 * (uu * top / ((M - m : Int) : Rat))) q0 cb (by grind) (by grind) (by grind) (by grind)
      have e : ((2 * (M - m) + (b - r) : Int) : Rat) / ((M - m : Int) : Rat) = 2 + ((M - r : Int) : Rat) / ((M - m : Int) : Rat) - ((M - b : Int) : Rat) / ((M - m : Int) : Rat) := by
        rw [Rat.intCast_add, Rat.intCast_mul]
        have e2 : ((2 : Int) : Rat) = 2 := rfl
        rw [e2]
        generalize ((M - m : Int) : Rat) = sp at *
        rw [Rat.intCast_sub, Rat.intCast_sub, Rat.intCast_sub]; grind
      rw [e]; exact q
    · rw [if_neg (fun e => d (eg.mp e)), if_neg d]
      refine ⟨?_, fun hy => by exfalso; omega⟩
      have q0 := ap_add (g := 10 * (uu * top / ((M - m : Int) : Rat))) (ap_self fin_c4) cg (by rw [fv_c4]; grind) (by rw [fv_c4]; grind) (by grind) (by grind)
      rw [fv_c4] at q0
      have q := ap_sub (g := 20 * (uu * top / ((M - m : Int) : Rat))) q0 cr (by grind) (by grind) (by grind) (by grind)
      have e : ((4 * (M - m) + (r - g) : Int) : Rat) / ((M - m : Int) : Rat) = 4 + ((M - g : Int) : Rat) / ((M - m : Int) : Rat) - ((M - r : Int) : Rat) / ((M - m : Int) : Rat) := by
        rw [Rat.intCast_add, Rat.intCast_mul]
        have e2 : ((4 : Int) : Rat) = 4 := rfl
        rw [e2]
        generalize ((M - m : Int) : Rat) = sp at *
        rw [Rat.intCast_sub, Rat.intCast_sub, Rat.intCast_sub]; grind
      rw [e]; exact q
end
end
end
section
section
open PySem PySem.Flt PySem.Float64
/-- a rounded float is the float -/
theorem rnd_exact {X : Rat} {r z : UInt64} (h : Rnd X r) (hz : Fin z) (e : X = fv z) : fv r = fv z :=
  Rat.le_antisymm (rnd_le h hz (by rw [e]; exact Rat.le_refl)) (rnd_ge h hz (by rw [e]; exact Rat.le_refl))
theorem hue_y {r g b M m y : Int} (i1 : m ≤ r) (i2 : r ≤ M) (i3 : m ≤ g) (i4 : g ≤ M) (i5 : m ≤ b) (i6 : b ≤ M) (hy : y = if r = M then g - b else if g = M then 2 * (M - m) + (b - r) else 4 * (M - m) + (r - g)) :
    (-(M - m) ≤ y ∧ y ≤ 5 * (M - m)) ∧ (0 ≤ y → hn r g b M (M - m) = y) ∧ (y < 0 → hn r g b M (M - m) = y + 6 * (M - m)) := by
  unfold hn
  by_cases c : r = M
  · rw [if_pos c] at hy; rw [if_pos c]; subst hy
    refine ⟨by omega, fun h => ?_, fun h => ?_⟩
    · rw [if_neg (by omega)]
    · rw [if_pos (by omega)]
  · rw [if_neg c] at hy; rw [if_neg c]
    by_cases d : g = M
    · rw [if_pos d] at hy; rw [if_pos d]; subst hy; exact ⟨by omega, fun _ => rfl, fun h => by omega⟩
    · rw [if_neg d] at hy; rw [if_neg d]; subst hy; exact ⟨by omega, fun _ => rfl, fun h => by omega⟩
section
variable {r g b top M m : Int} (C : Col r g b top M m)
include C
theorem Col.hue_ap : Ap (hueOf (sh r top) (sh g top) (sh b top)) ((hn r g b M (M - m) : Rat) / ((M - m : Int) : Rat) / 6) (9 * (uu * top / ((M - m : Int) : Rat))) ∧ 0 ≤ fv (hueOf (sh r top) (sh g top) (sh b top)) ∧ fv (hueOf (sh r top) (sh g top) (sh b top)) ≤ 1 := by
  have hg := C.grey
  have hM := C.M0
  by_cases h : M - m = 0
  · have e : hueOf (sh r top) (sh g top) (sh b top) = 0 := by unfold hueOf; rw [if_pos (hg.mpr h)]
    rw [e, h]
    have e0 : ((0 : Int) : Rat) = 0 := rfl
    rw [e0, fv_z]
    exact ⟨⟨fin_z, by rw [fv_z]; grind, by rw [fv_z]; grind⟩, by decide, by decide⟩
  · obtain ⟨y, hy, ya, yz⟩ := C.hue6_ap h
    have ng : ¬ Mine.grey (sh r top) (sh g top) (sh b top) = true := fun e => h (hg.mp e)
    have tp := castR_pos C.d.p
    have t2 := C.d.r.2
    have us := uus
    have u0 := uu0
    obtain ⟨k1, k2⟩ := C.kap h
    have hspp : 0 < ((M - m : Int) : Rat) := by grind
    have g1 := quo_ge u0 hspp k2
    have g2 := quo_le u0 k1 (Rat.le_of_lt tp) t2
    obtain ⟨⟨y0, y1⟩, hnp, hnn⟩ := hue_y C.bd.1.1 C.bd.1.2 C.bd.2.1.1 C.bd.2.1.2 C.bd.2.2.1 C.bd.2.2.2 hy
    clear hy
    have y0' : -1 ≤ (y : Rat) / ((M - m : Int) : Rat) := by
      apply le_div_of hspp
      have := castR_le y0
      rw [Rat.intCast_neg] at this; grind
    have y1' : (y : Rat) / ((M - m : Int) : Rat) ≤ 5 := by
      apply div_le_of hspp
      have := castR_le y1
      rw [Rat.intCast_mul] at this
      have e5 : ((5 : Int) : Rat) = 5 := rfl
      rw [e5] at this; exact this
    have hval : hueOf (sh r top) (sh g top) (sh b top) = (divmod (div (hue6 (sh r top) (sh g top) (sh b top)) c6) c1).2 := by unfold hueOf; rw [if_neg ng]
    rw [hval]
    -- the quotient by six
    have ya' : Ap (hue6 (sh r top) (sh g top) (sh b top)) ((y : Rat) / ((M - m : Int) : Rat) / 6 * fv c6) (20 * (uu * top / ((M - m : Int) : Rat))) := by
      rw [fv_c6]
      have : (y : Rat) / ((M - m : Int) : Rat) / 6 * 6 = (y : Rat) / ((M - m : Int) : Rat) := by grind
      rw [this]; exact ya
    have q := ap_div (g := 8 * (uu * top / ((M - m : Int) : Rat))) 1 6 (7 * (uu * top / ((M - m : Int) : Rat))) ya' (ap_self fin_c6) (by grind) (by grind) (by rw [fv_c6]; grind) (by decide) (by decide +kernel) (by grind) (by grind) (by grind) (by grind)
    obtain ⟨k, ka, kb, kc, kd, ke, kf⟩ := mod1 q.fin
    have q1 := q.lo; have q2 := q.hi
    refine ⟨?_, kb, kc⟩
    have eqz : y = 0 → fv (div (hue6 (sh r top) (sh g top) (sh b top)) c6) = 0 := fun e => by
      have h0 := yz e
      have hz : fv (hue6 (sh r top) (sh g top) (sh b top)) / fv c6 = 0 := by rw [h0, fv_c6]; decide +kernel
      have hr := div_rnd ya.fin fin_c6 (by rw [fv_c6]; decide) (big_of (by rw [hz]; decide +kernel) (by rw [hz]; decide +kernel))
      rw [hz] at hr
      have := rnd_exact hr fin_z fv_z.symm
      rw [this, fv_z]
    have ksm : 8 * (uu * top / ((M - m : Int) : Rat)) * (6 * ((M - m : Int) : Rat)) < 1 := by
      have e := quo (u := uu) (t := top) hspp
      generalize uu * top / ((M - m : Int) : Rat) = κ at *
      have : uu * top ≤ uu * 16384 := Rat.mul_le_mul_of_nonneg_left t2 u0
      grind
    generalize hX : div (hue6 (sh r top) (sh g top) (sh b top)) c6 = X at *
    generalize hK : uu * top / ((M - m : Int) : Rat) = κ at *
    have step : 1 ≤ y → 8 * κ < (y : Rat) / ((M - m : Int) : Rat) / 6 := fun e => by
      have e1 := castR_le e
      have h1 : 1 / ((M - m : Int) : Rat) ≤ (y : Rat) / ((M - m : Int) : Rat) := div_le_div hspp e1
      have h2 : 8 * κ * 6 < 1 / ((M - m : Int) : Rat) := by
        rw [← Rat.not_le]
        intro hh
        have := Rat.mul_le_mul_of_nonneg_right hh (Rat.le_of_lt hspp)
        have e3 : 1 / ((M - m : Int) : Rat) * ((M - m : Int) : Rat) = 1 := by grind
        rw [e3] at this
        grind
      grind
    have stepn : y ≤ -1 → (y : Rat) / ((M - m : Int) : Rat) / 6 < -(8 * κ) := fun e => by
      have e1 := castR_le e
      have h1 : (y : Rat) / ((M - m : Int) : Rat) ≤ ((-1 : Int) : Rat) / ((M - m : Int) : Rat) := div_le_div hspp e1
      have h2 : 8 * κ * 6 < 1 / ((M - m : Int) : Rat) := by
        rw [← Rat.not_le]
        intro hh
        have := Rat.mul_le_mul_of_nonneg_right hh (Rat.le_of_lt hspp)
        have e3 : 1 / ((M - m : Int) : Rat) * ((M - m : Int) : Rat) = 1 := by grind
        rw [e3] at this
        grind
      have e4 : ((-1 : Int) : Rat) / ((M - m : Int) : Rat) = -(1 / ((M - m : Int) : Rat)) := by
        have : ((-1 : Int) : Rat) = -1 := rfl
        rw [this]; grind
      grind
    have ky := ka.lo; have ky' := ka.hi
    have ik1 : fv X < 1 → 0 ≤ fv X → k = 0 := fun a1 a2 => by
      have h1 : k ≤ 0 := int_lt_of (by have e : ((0 : Int) : Rat) = 0 := rfl; rw [e]; grind)
      have h2 : 0 ≤ k := int_lt_of (by have e : ((0 : Int) : Rat) = 0 := rfl; rw [e]; grind)
      omega
    have ik2 : fv X < 0 → -1 ≤ fv X → k = -1 := fun a1 a2 => by
      have h1 : k ≤ -1 := int_lt_of (by have e : ((-1 : Int) : Rat) = -1 := rfl; rw [e]; grind)
      have h2 : -1 ≤ k := int_lt_of (by have e : ((-1 : Int) : Rat) = -1 := rfl; rw [e]; grind)
      omega
    rcases Int.lt_trichotomy y 0 with e | e | e
    · have e1 := stepn (by omega)
      have e2 := ik2 (by grind) (by grind)
      rw [hnn e, Rat.intCast_add, Rat.intCast_mul]
      have e6 : ((6 : Int) : Rat) = 6 := rfl
      have em : ((-1 : Int) : Rat) = -1 := rfl
      rw [e6]
      rw [e2, em] at ky ky'
      have e7 : ((y : Rat) + 6 * ((M - m : Int) : Rat)) / ((M - m : Int) : Rat) / 6 = (y : Rat) / ((M - m : Int) : Rat) / 6 + 1 := by
        generalize ((M - m : Int) : Rat) = sp at *
        grind
      rw [e7]
      exact ⟨ka.fin, by grind, by grind⟩
    · have e1 := eqz e
      have e2 := ik1 (by grind) (by grind)
      rw [hnp (by omega)]
      have e0 : ((0 : Int) : Rat) = 0 := rfl
      have e3 := kf (by grind)
      rw [e2, e0] at e3
      exact ⟨ka.fin, by grind, by grind⟩
    · have e1 := step (by omega)
      have e2 := ik1 (by grind) (by grind)
      rw [hnp (by omega)]
      have e0 : ((0 : Int) : Rat) = 0 := rfl
      have e3 := kf (by grind)
      rw [e2, e0] at e3
      exact ⟨ka.fin, by grind, by grind⟩
end
end
end
section
section
open PySem PySem.Flt PySem.Float64
section
variable {r g b top M m : Int} (C : Col r g b top M m)
include C
theorem Col.fr : (0 : Rat) ≤ (M : Rat) / top ∧ (M : Rat) / top ≤ 1 ∧ 0 ≤ (m : Rat) / top ∧ (m : Rat) / top ≤ 1 := by
  have tp := castR_pos C.d.p
  exact ⟨le_div_of tp (by have := castR_nn C.M0.1; grind), div_le_of tp (by have := castR_le C.M0.2.1; grind), le_div_of tp (by have := castR_nn C.M0.2.2.1; grind), div_le_of tp (by have := castR_le C.M0.2.2.2.1; grind)⟩
/-- the spread as a float lies between 0 and the greatest -/
theorem Col.rg_b : 0 ≤ fv (rg (sh r top) (sh g top) (sh b top)) ∧ fv (rg (sh r top) (sh g top) (sh b top)) ≤ fv (sh M top) := by
  obtain ⟨a, a0, a1⟩ := C.sM
  obtain ⟨c, c0, c1⟩ := C.sm
  have hle := (sh_le_iff C.d C.M0.2.2.1 C.M0.2.2.2.1 C.M0.1 C.M0.2.1).mpr C.M0.2.2.2.2
  have hr := sub_rnd a.fin c.fin (big_of (by grind) (by grind))
  unfold rg
  rw [C.max, C.min]
  have l1 := rnd_le hr a.fin (by grind)
  have l2 := rnd_ge hr fin_z (by rw [fv_z]; grind)
  rw [fv_z] at l2
  exact ⟨l2, l1⟩
theorem Col.satV_ap : Ap (satV (sh r top) (sh g top) (sh b top)) (((M - m : Int) : Rat) / M) (6 * (uu * top / M)) ∧ 0 ≤ fv (satV (sh r top) (sh g top) (sh b top)) ∧ fv (satV (sh r top) (sh g top) (sh b top)) ≤ 1 := by
  have hg := C.grey
  have hM := C.M0
  have u0 := uu0
  have us := uus
  have tp := castR_pos C.d.p
  have t2 := C.d.r.2
  by_cases h : M - m = 0
  · have e : satV (sh r top) (sh g top) (sh b top) = 0 := by unfold satV; rw [if_pos (hg.mpr h)]
    rw [e, h]
    have e0 : ((0 : Int) : Rat) = 0 := rfl
    have e1 : (0 : Rat) ≤ uu * top / M := by
      rcases Int.lt_or_le 0 M with h1 | h1
      · exact le_div_of (castR_pos h1) (by have := Rat.mul_nonneg u0 (Rat.le_of_lt tp); grind)
      · have : M = 0 := by omega
        rw [this, e0, Rat.div_def, Rat.inv_zero]; grind
    rw [e0, fv_z]
    exact ⟨⟨fin_z, by rw [fv_z]; grind, by rw [fv_z]; grind⟩, by decide, by decide⟩
  · have ng : ¬ Mine.grey (sh r top) (sh g top) (sh b top) = true := fun e => h (hg.mp e)
    have hval : satV (sh r top) (sh g top) (sh b top) = div (rg (sh r top) (sh g top) (sh b top)) (sh M top) := by unfold satV; rw [if_neg ng, C.max]
    rw [hval]
    have Mp : 0 < (M : Rat) := castR_pos (by omega)
    have M1 : (1 : Rat) ≤ (M : Rat) := castR_le (show 1 ≤ M by omega)
    have M2 := castR_le hM.2.1
    obtain ⟨k1, k2⟩ := C.kap h
    have k3 := castR_le (show M - m ≤ M by omega)
    obtain ⟨a, a0, a1⟩ := C.sM
    have hr := C.rg_ap
    obtain ⟨b0, b1⟩ := C.rg_b
    generalize ((M - m : Int) : Rat) = sp at *
    have e2 : sp / top = sp / M * (M / top) := by grind
    rw [e2] at hr
    have z0 : 0 ≤ sp / M := le_div_of Mp (by grind)
    have z1 : sp / M ≤ 1 := div_le_of Mp (by grind)
    have l1 : 1 / 16384 ≤ (M : Rat) / top := by
      have h1 : 1 / (top : Rat) ≤ M / top := div_le_div tp M1
      have h2 : 1 / 16384 ≤ 1 / (top : Rat) := le_div_of tp (by grind)
      grind
    have g1 := quo_ge u0 Mp M2
    have g2 := quo_le u0 M1 (Rat.le_of_lt tp) t2
    have e3 := halfm 5 (canc (u := uu) tp Mp)
    have q := ap_div (g := 6 * (uu * top / M)) 1 (M / top) (5 * (uu * top / M)) hr a (by grind) (by grind) (by grind) (by grind) (by grind) (by rw [e3]; grind) (by grind) (by grind) (by grind)
    have al := a.lo
    have vp : 0 < fv (sh M top) := by grind
    have qq : fv (rg (sh r top) (sh g top) (sh b top)) / fv (sh M top) ≤ 1 := div_le_of vp (by grind)
    have q0 : 0 ≤ fv (rg (sh r top) (sh g top) (sh b top)) / fv (sh M top) := le_div_of vp (by grind)
    have dr := div_rnd hr.fin a.fin (by grind) (big_of (by grind) (by grind))
    have d1 := rnd_le dr fin_c1 (by rw [fv_c1]; exact qq)
    have d0 := rnd_ge dr fin_z (by rw [fv_z]; exact q0)
    rw [fv_c1] at d1
    rw [fv_z] at d0
    exact ⟨q, d0, d1⟩
theorem Col.sum_ap : Ap (add (sh M top) (sh m top)) (((M + m : Int) : Rat) / top) (2 * uu) ∧ 0 ≤ fv (add (sh M top) (sh m top)) ∧ fv (add (sh M top) (sh m top)) ≤ 2 := by
  have u0 := uu0
  have us := uus
  have tp := castR_pos C.d.p
  obtain ⟨a, a0, a1⟩ := C.sM
  obtain ⟨c, c0, c1⟩ := C.sm
  obtain ⟨f1, f2, f3, f4⟩ := C.fr
  have q := ap_add (g := 2 * uu) a c (by grind) (by grind) (by grind) (by grind)
  have e : ((M + m : Int) : Rat) / top = (M : Rat) / top + m / top := by rw [Rat.intCast_add]; grind
  rw [e]
  have hr := add_rnd a.fin c.fin (big_of (by grind) (by grind))
  have d1 := rnd_le hr fin_c2 (by rw [fv_c2]; grind)
  have d0 := rnd_ge hr fin_z (by rw [fv_z]; grind)
  rw [fv_c2] at d1
  rw [fv_z] at d0
  exact ⟨q, d0, d1⟩
theorem Col.light_ap : Ap (light (sh r top) (sh g top) (sh b top)) (((M + m : Int) : Rat) / (2 * top)) (3 * uu) ∧ 0 ≤ fv (light (sh r top) (sh g top) (sh b top)) ∧ fv (light (sh r top) (sh g top) (sh b top)) ≤ 1 := by
  have u0 := uu0
  have us := uus
  have tp := castR_pos C.d.p
  obtain ⟨q, q0, q1⟩ := C.sum_ap
  unfold light
  rw [C.max, C.min]
  have l0 := castR_nn (show 0 ≤ M + m by have := C.M0; omega)
  have l1 := castR_le (show M + m ≤ 2 * top by have := C.M0; omega)
  rw [Rat.intCast_mul] at l1
  have e2 : ((2 : Int) : Rat) = 2 := rfl
  rw [e2] at l1
  have x0 : 0 ≤ ((M + m : Int) : Rat) / (2 * top) := le_div_of (by grind) (by grind)
  have x1 : ((M + m : Int) : Rat) / (2 * top) ≤ 1 := div_le_of (by grind) (by grind)
  have e : ((M + m : Int) : Rat) / top = ((M + m : Int) : Rat) / (2 * top) * fv c2 := by rw [fv_c2]; grind
  rw [e] at q
  have d := ap_div (g := 3 * uu) 1 2 (2 * uu) q (ap_self fin_c2) (by grind) (by grind) (by rw [fv_c2]; grind) (by decide) (by decide +kernel) (by grind) (by grind) (by grind) (by grind)
  have hr := div_rnd q.fin fin_c2 (by rw [fv_c2]; decide) (big_of (by rw [fv_c2]; grind) (by rw [fv_c2]; grind))
  have d1 := rnd_le hr fin_c1 (by rw [fv_c1, fv_c2]; grind)
  have d0 := rnd_ge hr fin_z (by rw [fv_z, fv_c2]; grind)
  rw [fv_c1] at d1
  rw [fv_z] at d0
  exact ⟨d, d0, d1⟩
/-- l, s -/
theorem Col.satL_ap : Ap (satL (sh r top) (sh g top) (sh b top)) (((M - m : Int) : Rat) / ((Min.min (M + m) (2 * top - (M + m)) : Int) : Rat)) (11 * (uu * top / ((Min.min (M + m) (2 * top - (M + m)) : Int) : Rat))) ∧ 0 ≤ fv (satL (sh r top) (sh g top) (sh b top)) ∧ fv (satL (sh r top) (sh g top) (sh b top)) ≤ 101 / 100 := by
  have hg := C.grey
  have hM := C.M0
  have u0 := uu0
  have us := uus
  have tp := castR_pos C.d.p
  have t2 := C.d.r.2
  generalize hmd : Min.min (M + m) (2 * top - (M + m)) = md
  by_cases h : M - m = 0
  · have e : satL (sh r top) (sh g top) (sh b top) = 0 := by unfold satL; rw [if_pos (hg.mpr h)]
    rw [e, h]
    have e0 : ((0 : Int) : Rat) = 0 := rfl
    have e1 : (0 : Rat) ≤ uu * top / md := by
      rcases Int.lt_or_le 0 md with h1 | h1
      · exact le_div_of (castR_pos h1) (by have := Rat.mul_nonneg u0 (Rat.le_of_lt tp); grind)
      · have : md = 0 := by omega
        rw [this, e0, Rat.div_def, Rat.inv_zero]; grind
    rw [e0, fv_z]
    exact ⟨⟨fin_z, by rw [fv_z]; grind, by rw [fv_z]; grind⟩, by decide, by decide +kernel⟩
  · have ng : ¬ Mine.grey (sh r top) (sh g top) (sh b top) = true := fun e => h (hg.mp e)
    have mdp : 0 < md := by omega
    have Mp : 0 < (md : Rat) := castR_pos (by omega)
    have M1 : (1 : Rat) ≤ (md : Rat) := castR_le (show 1 ≤ md by omega)
    have M2 := castR_le (show md ≤ top by omega)
    obtain ⟨k1, k2⟩ := C.kap h
    have k3 := castR_le (show M - m ≤ md by omega)
    obtain ⟨a, a0, a1⟩ := C.sM
    obtain ⟨c, c0, c1⟩ := C.sm
    obtain ⟨f1, f2, f3, f4⟩ := C.fr
    have hr := C.rg_ap
    obtain ⟨b0, b1⟩ := C.rg_b
    obtain ⟨la, l0, l1⟩ := C.light_ap
    obtain ⟨sa, s0, s1⟩ := C.sum_ap
    generalize ((M - m : Int) : Rat) = sp at *
    have e2 : sp / top = sp / md * (md / top) := by grind
    rw [e2] at hr
    have z0 : 0 ≤ sp / md := le_div_of Mp (by grind)
    have z1 : sp / md ≤ 1 := div_le_of Mp (by grind)
    have lo1 : 1 / 16384 ≤ (md : Rat) / top := by
      have h1 : 1 / (top : Rat) ≤ md / top := div_le_div tp M1
      have h2 : 1 / 16384 ≤ 1 / (top : Rat) := le_div_of tp (by grind)
      grind
    have g1 := quo_ge u0 Mp M2
    have g2 := quo_le u0 M1 (Rat.le_of_lt tp) t2
    have e3 := halfm 10 (canc (u := uu) tp Mp)
    have fin : ∀ y : UInt64, Ap y (md / top) (3 * uu) → Ap (div (rg (sh r top) (sh g top) (sh b top)) y) (sp / md) (11 * (uu * top / md)) ∧ 0 ≤ fv (div (rg (sh r top) (sh g top) (sh b top)) y) ∧ fv (div (rg (sh r top) (sh g top) (sh b top)) y) ≤ 101 / 100 := fun y hy => by
      have q := ap_div (g := 11 * (uu * top / md)) 1 (md / top) (10 * (uu * top / md)) hr hy (by grind) (by grind) (by grind) (by grind) (by grind) (by rw [e3]; grind) (by grind) (by grind) (by grind)
      have yl := hy.lo; have yh := hy.hi
      have vp : 0 < fv y := by grind
      have q1 := q.lo; have q2 := q.hi
      have rl := hr.lo; have rh := hr.hi
      have q0 : 0 ≤ fv (rg (sh r top) (sh g top) (sh b top)) / fv y := le_div_of vp (by grind)
      have qq : fv (rg (sh r top) (sh g top) (sh b top)) / fv y ≤ 16385 := by
        apply div_le_of vp; grind
      have dr := div_rnd hr.fin hy.fin (by grind) (big_of (by grind) (by grind))
      have d0 := rnd_ge dr fin_z (by rw [fv_z]; exact q0)
      rw [fv_z] at d0
      exact ⟨q, d0, by grind⟩
    have ltop : ((M + m : Int) : Rat) / (2 * top) * (2 * top) = ((M + m : Int) : Rat) := by grind
    have hu : (top : Rat) * uu ≤ 16384 * uu := Rat.mul_le_mul_of_nonneg_right t2 u0
    unfold satL
    rw [if_neg ng]
    by_cases hc : fle (light (sh r top) (sh g top) (sh b top)) cHalf = true
    · rw [if_pos hc]
      have hc' := (fle_iff la.fin fin_half).mp hc
      rw [fv_half] at hc'
      have lal := la.lo
      have : M + m ≤ top := by
        apply int_lt_of
        have h1 : ((M + m : Int) : Rat) / (2 * top) ≤ 1 / 2 + 3 * uu := by grind
        have h2 := Rat.mul_le_mul_of_nonneg_right h1 (show 0 ≤ 2 * (top : Rat) by grind)
        rw [ltop] at h2
        grind
      have em : md = M + m := by omega
      rw [C.max, C.min]
      apply fin
      rw [em]
      exact sa.wide (by grind)
    · rw [if_neg hc]
      have hc' := not_fle la.fin fin_half hc
      rw [fv_half] at hc'
      have lah := la.hi
      have : top ≤ M + m := by
        apply int_lt_of
        have h1 : 1 / 2 - 3 * uu ≤ ((M + m : Int) : Rat) / (2 * top) := by grind
        have h2 := Rat.mul_le_mul_of_nonneg_right h1 (show 0 ≤ 2 * (top : Rat) by grind)
        rw [ltop] at h2
        grind
      have em : md = 2 * top - (M + m) := by omega
      rw [C.max, C.min]
      apply fin
      rw [em]
      have w1 := ap_sub (g := 3 / 2 * uu) (ap_self fin_c2) a (by rw [fv_c2]; grind) (by rw [fv_c2]; grind) (by grind) (by grind)
      rw [fv_c2] at w1
      have w2 := ap_sub (g := 3 * uu) w1 c (by grind) (by grind) (by grind) (by grind)
      have e : ((2 * top - (M + m) : Int) : Rat) / top = 2 - (M : Rat) / top - m / top := by
        rw [Rat.intCast_sub, Rat.intCast_mul, Rat.intCast_add]
        have e2 : ((2 : Int) : Rat) = 2 := rfl
        rw [e2]; grind
      rw [e]; exact w2
end
end
end
section
section
open PySem PySem.Flt PySem.Float64
theorem tzv {y m : Rat} (k : Int) (h : y - 6 * (k : Rat) = m) (m0 : 0 ≤ m) (m6 : m ≤ 6) : tz y = tr m := by
  rw [tz_at k (by rw [h]; exact m0) (by rw [h]; exact m6), h]
theorem i0 : ((0 : Int) : Rat) = 0 := rfl
theorem i1 : ((1 : Int) : Rat) = 1 := rfl
theorem i2 : ((2 : Int) : Rat) = 2 := rfl
theorem i4 : ((4 : Int) : Rat) = 4 := rfl
theorem i6 : ((6 : Int) : Rat) = 6 := rfl
theorem im1 : ((-1 : Int) : Rat) = -1 := rfl
section
variable {x : Rat} (x0 : 0 ≤ x) (x1 : x ≤ 1)
include x0 x1
theorem tz_s0 : tz (x + 2) = 1 ∧ tz (x + 0) = x ∧ tz (x + -2) = 0 := by
  refine ⟨?_, ?_, ?_⟩
  · rw [tzv (m := x + 2) 0 (by rw [i0]; grind) (by grind) (by grind)]; unfold tr; grind
  · rw [tzv (m := x) 0 (by rw [i0]; grind) (by grind) (by grind)]; unfold tr; grind
  · rw [tzv (m := x + 4) (-1) (by rw [im1]; grind) (by grind) (by grind)]; unfold tr; grind
theorem tz_s5 : tz (6 - x + 2) = 1 ∧ tz (6 - x + 0) = 0 ∧ tz (6 - x + -2) = x := by
  refine ⟨?_, ?_, ?_⟩
  · rw [tzv (m := 2 - x) 1 (by rw [i1]; grind) (by grind) (by grind)]; unfold tr; grind
  · rw [tzv (m := 6 - x) 0 (by rw [i0]; grind) (by grind) (by grind)]; unfold tr; grind
  · rw [tzv (m := 4 - x) 0 (by rw [i0]; grind) (by grind) (by grind)]; unfold tr; grind
theorem tz_s2 : tz (2 + x + 2) = 0 ∧ tz (2 + x + 0) = 1 ∧ tz (2 + x + -2) = x := by
  refine ⟨?_, ?_, ?_⟩
  · rw [tzv (m := 4 + x) 0 (by rw [i0]; grind) (by grind) (by grind)]; unfold tr; grind
  · rw [tzv (m := 2 + x) 0 (by rw [i0]; grind) (by grind) (by grind)]; unfold tr; grind
  · rw [tzv (m := x) 0 (by rw [i0]; grind) (by grind) (by grind)]; unfold tr; grind
theorem tz_s1 : tz (2 - x + 2) = x ∧ tz (2 - x + 0) = 1 ∧ tz (2 - x + -2) = 0 := by
  refine ⟨?_, ?_, ?_⟩
  · rw [tzv (m := 4 - x) 0 (by rw [i0]; grind) (by grind) (by grind)]; unfold tr; grind
  · rw [tzv (m := 2 - x) 0 (by rw [i0]; grind) (by grind) (by grind)]; unfold tr; grind
  · rw [tzv (m := 6 - x) (-1) (by rw [im1]; grind) (by grind) (by grind)]; unfold tr; grind
theorem tz_s4 : tz (4 + x + 2) = x ∧ tz (4 + x + 0) = 0 ∧ tz (4 + x + -2) = 1 := by
  refine ⟨?_, ?_, ?_⟩
  · rw [tzv (m := x) 1 (by rw [i1]; grind) (by grind) (by grind)]; unfold tr; grind
  · rw [tzv (m := 4 + x) 0 (by rw [i0]; grind) (by grind) (by grind)]; unfold tr; grind
  · rw [tzv (m := 2 + x) 0 (by rw [i0]; grind) (by grind) (by grind)]; unfold tr; grind
theorem tz_s3 : tz (4 - x + 2) = 0 ∧ tz (4 - x + 0) = x ∧ tz (4 - x + -2) = 1 := by
  refine ⟨?_, ?_, ?_⟩
  · rw [tzv (m := 6 - x) 0 (by rw [i0]; grind) (by grind) (by grind)]; unfold tr; grind
  · rw [tzv (m := 4 - x) 0 (by rw [i0]; grind) (by grind) (by grind)]; unfold tr; grind
  · rw [tzv (m := 2 - x) 0 (by rw [i0]; grind) (by grind) (by grind)]; unfold tr; grind
end
/-- the colour told by its least, its spread and its hue (in sixths) -/
structure Rep (r g b m sp y : Rat) : Prop where
  r : r = m + sp * tz (y + 2)
  g : g = m + sp * tz (y + 0)
  b : b = m + sp * tz (y + -2)
theorem Rep.of {r g b m sp y t1 t2 t3 : Rat} (h : tz (y + 2) = t1 ∧ tz (y + 0) = t2 ∧ tz (y + -2) = t3) (e1 : r = m + sp * t1) (e2 : g = m + sp * t2) (e3 : b = m + sp * t3) : Rep r g b m sp y := by
  obtain ⟨rfl, rfl, rfl⟩ := h
  exact ⟨e1, e2, e3⟩
section
variable {r g b top M m : Int} (C : Col r g b top M m)
include C
theorem Col.rep : Rep (r : Rat) (g : Rat) (b : Rat) (m : Rat) ((M - m : Int) : Rat) ((hn r g b M (M - m) : Rat) / ((M - m : Int) : Rat)) := by
  obtain ⟨⟨b1, b2⟩, ⟨b3, b4⟩, b5, b6⟩ := C.bd
  obtain ⟨a1, a2⟩ := C.att
  by_cases h : M - m = 0
  · rw [h, i0]
    have e1 : r = m := by omega
    have e2 : g = m := by omega
    have e3 : b = m := by omega
    rw [e1, e2, e3]
    exact ⟨by grind, by grind, by grind⟩
  · obtain ⟨k1, k2⟩ := C.kap h
    have hspp : 0 < ((M - m : Int) : Rat) := by grind
    have hx : ∀ a : Int, 0 ≤ a → a ≤ M - m → 0 ≤ (a : Rat) / ((M - m : Int) : Rat) ∧ (a : Rat) / ((M - m : Int) : Rat) ≤ 1 ∧ ((M - m : Int) : Rat) * ((a : Rat) / ((M - m : Int) : Rat)) = a := fun a a0 a1 => by
      have := castR_nn a0
      have := castR_le a1
      exact ⟨le_div_of hspp (by grind), div_le_of hspp (by grind), by grind⟩
    have hMm : ((M - m : Int) : Rat) = (M : Rat) - m := Rat.intCast_sub ..
    unfold hn
    by_cases c : r = M
    · rw [if_pos c]
      by_cases d : g < b
      · rw [if_pos d]
        obtain ⟨x0, x1, x2⟩ := hx (b - g) (by omega) (by omega)
        have e : ((g - b + 6 * (M - m) : Int) : Rat) / ((M - m : Int) : Rat) = 6 - ((b - g : Int) : Rat) / ((M - m : Int) : Rat) := by
          rw [Rat.intCast_add, Rat.intCast_mul, i6]
          generalize ((M - m : Int) : Rat) = sp at *
          rw [Rat.intCast_sub, Rat.intCast_sub]; grind
        rw [e]
        have eg : (g : Rat) = m := by rw [show g = m by omega]
        have er : (r : Rat) = M := by rw [c]
        refine Rep.of (tz_s5 x0 x1) ?_ ?_ ?_
        · rw [hMm, er]; grind
        · rw [eg]; grind
        · rw [x2, Rat.intCast_sub, eg]; grind
      · rw [if_neg d]
        obtain ⟨x0, x1, x2⟩ := hx (g - b) (by omega) (by omega)
        have eb : (b : Rat) = m := by rw [show b = m by omega]
        have er : (r : Rat) = M := by rw [c]
        refine Rep.of (tz_s0 x0 x1) ?_ ?_ ?_
        · rw [hMm, er]; grind
        · rw [x2, Rat.intCast_sub, eb]; grind
        · rw [eb]; grind
    · rw [if_neg c]
      by_cases d : g = M
      · rw [if_pos d]
        have eg : (g : Rat) = M := by rw [d]
        by_cases f : r ≤ b
        · obtain ⟨x0, x1, x2⟩ := hx (b - r) (by omega) (by omega)
          have e : ((2 * (M - m) + (b - r) : Int) : Rat) / ((M - m : Int) : Rat) = 2 + ((b - r : Int) : Rat) / ((M - m : Int) : Rat) := by
            rw [Rat.intCast_add, Rat.intCast_mul, i2]
            generalize ((M - m : Int) : Rat) = sp at *
            grind
          rw [e]
          have er : (r : Rat) = m := by rw [show r = m by omega]
          refine Rep.of (tz_s2 x0 x1) ?_ ?_ ?_
          · rw [er]; grind
          · rw [hMm, eg]; grind
          · rw [x2, Rat.intCast_sub, er]; grind
        · obtain ⟨x0, x1, x2⟩ := hx (r - b) (by omega) (by omega)
          have e : ((2 * (M - m) + (b - r) : Int) : Rat) / ((M - m : Int) : Rat) = 2 - ((r - b : Int) : Rat) / ((M - m : Int) : Rat) := by
            rw [Rat.intCast_add, Rat.intCast_mul, i2]
            generalize ((M - m : Int) : Rat) = sp at *
            rw [Rat.intCast_sub, Rat.intCast_sub]; grind
          rw [e]
          have eb : (b : Rat) = m := by rw [show b = m by omega]
          refine Rep.of (tz_s1 x0 x1) ?_ ?_ ?_
          · rw [x2, Rat.intCast_sub, eb]; grind
          · rw [hMm, eg]; grind
          · rw [eb]; grind
      · rw [if_neg d]
        have eb : (b : Rat) = M := by rw [show b = M by omega]
        by_cases f : g ≤ r
        · obtain ⟨x0, x1, x2⟩ := hx (r - g) (by omega) (by omega)
          have e : ((4 * (M - m) + (r - g) : Int) : Rat) / ((M - m : Int) : Rat) = 4 + ((r - g : Int) : Rat) / ((M - m : Int) : Rat) := by
            rw [Rat.intCast_add, Rat.intCast_mul, i4]
            generalize ((M - m : Int) : Rat) = sp at *
            grind
          rw [e]
          have eg : (g : Rat) = m := by rw [show g = m by omega]
          refine Rep.of (tz_s4 x0 x1) ?_ ?_ ?_
          · rw [x2, Rat.intCast_sub, eg]; grind
          · rw [eg]; grind
          · rw [hMm, eb]; grind
        · obtain ⟨x0, x1, x2⟩ := hx (g - r) (by omega) (by omega)
          have e : ((4 * (M - m) + (r - g) : Int) : Rat) / ((M - m : Int) : Rat) = 4 - ((g - r : Int) : Rat) / ((M - m : Int) : Rat) := by
            rw [Rat.intCast_add, Rat.intCast_mul, i4]
            generalize ((M - m : Int) : Rat) = sp at *
            rw [Rat.intCast_sub, Rat.intCast_sub]; grind
          rw [e]
          have er : (r : Rat) = m := by rw [show r = m by omega]
          refine Rep.of (tz_s3 x0 x1) ?_ ?_ ?_
          · rw [er]; grind
          · rw [x2, Rat.intCast_sub, er]; grind
          · rw [hMm, eb]; grind
end
theorem fmod_small {a n : Int} (h0 : 0 ≤ a) (h1 : a < n) : a.fmod n = a := by
  rw [Int.fmod_eq_emod_of_nonneg a (by omega)]; exact Int.emod_eq_of_lt h0 h1
theorem fmod_negs {a n : Int} (h0 : -n ≤ a) (h1 : a < 0) : a.fmod n = a + n := by
  rw [Int.fmod_eq_emod_of_nonneg a (by omega), ← Int.add_emod_right]; exact Int.emod_eq_of_lt (by omega) (by omega)
end
end
section
section
open PySem PySem.Flt PySem.Float64
/-- a component of hsv_to_rgb, from near arguments -/
theorem hsv_inv {x : UInt64} {v s h c V S Y ev es eh a d e0 e : Rat} (hx : Ap x (v * (1 - s * (1 - tz (6 * h + c)))) e0)
    (s0 : 0 ≤ s) (s1 : s ≤ 2) (V0 : 0 ≤ V) (S0 : 0 ≤ S)
    (v1 : -ev ≤ v - V) (v2 : v - V ≤ ev) (s3 : -es ≤ s - S) (s4 : s - S ≤ es) (h1 : -eh ≤ h - Y / 6) (h2 : h - Y / 6 ≤ eh)
    (ha : V * es ≤ a) (hd : V * S * (6 * eh) ≤ d) (he : e0 + ev + a + d ≤ e) : Ap x (V * (1 - S * (1 - tz (Y + c)))) e := by
  have z1 := tz_lip (x := 6 * h + c) (y := Y + c) (e := 6 * eh) (by grind) (by grind)
  have z2 := tz_lip (y := 6 * h + c) (x := Y + c) (e := 6 * eh) (by grind) (by grind)
  have t1 := tz_b (6 * h + c)
  have t2 := tz_b (Y + c)
  have l1 := hx.lo; have l2 := hx.hi
  generalize tz (6 * h + c) = t at *
  generalize tz (Y + c) = T at *
  have m0 := rabs_mul (a := s) (b := 1 - t) (A := 2) (B := 1) (by grind) (by grind) (by grind) (by grind)
  have m0' := Rat.mul_nonneg s0 (show 0 ≤ 1 - t by grind)
  have m1 := rabs_mul (a := v - V) (b := 1 - s * (1 - t)) (A := ev) (B := 1) (by grind) (by grind) (by grind) (by grind)
  have m2 := rabs_mul (a := s - S) (b := 1 - t) (A := es) (B := 1) (by grind) (by grind) (by grind) (by grind)
  have m3 := rabs_mul (a := V) (b := (s - S) * (1 - t)) (A := V) (B := es) (by grind) (by grind) (by grind) (by grind)
  have vs := Rat.mul_nonneg V0 S0
  have m4 := rabs_mul (a := V * S) (b := T - t) (A := V * S) (B := 6 * eh) (by grind) (by grind) (by grind) (by grind)
  have eq : v * (1 - s * (1 - t)) = V * (1 - S * (1 - T)) + (v - V) * (1 - s * (1 - t)) - V * ((s - S) * (1 - t)) - V * S * (T - t) := by grind
  exact ⟨hx.fin, by grind, by grind⟩
/-- a component of hls_to_rgb, from near arguments -/
theorem hls_inv {x : UInt64} {l s h c L S Y el es eh a d e0 e : Rat} (hx : Ap x (l + s * mn1 l * (2 * tz (6 * h + c) - 1)) e0)
    (l0 : 0 ≤ l) (l1 : l ≤ 1) (L0 : 0 ≤ L) (L1 : L ≤ 1) (s0 : 0 ≤ s) (s1 : s ≤ 2) (S0 : 0 ≤ S)
    (v1 : -el ≤ l - L) (v2 : l - L ≤ el) (s3 : -es ≤ s - S) (s4 : s - S ≤ es) (h1 : -eh ≤ h - Y / 6) (h2 : h - Y / 6 ≤ eh)
    (ha : mn1 L * es ≤ a) (hd : S * mn1 L * (6 * eh) ≤ d) (he : e0 + 3 * el + a + 2 * d ≤ e) : Ap x (L + S * mn1 L * (2 * tz (Y + c) - 1)) e := by
  have z1 := tz_lip (x := 6 * h + c) (y := Y + c) (e := 6 * eh) (by grind) (by grind)
  have z2 := tz_lip (y := 6 * h + c) (x := Y + c) (e := 6 * eh) (by grind) (by grind)
  have t1 := tz_b (6 * h + c)
  have t2 := tz_b (Y + c)
  have q1 := hx.lo; have q2 := hx.hi
  have n1 := mn1_lip (a := l) (b := L) (e := el) (by grind) (by grind)
  have n2 := mn1_lip (b := l) (a := L) (e := el) (by grind) (by grind)
  have n3 := mn1_b l0 l1
  have n4 := mn1_b L0 L1
  generalize tz (6 * h + c) = t at *
  generalize tz (Y + c) = T at *
  generalize mn1 l = p at *
  generalize mn1 L = P at *
  have m1 := rabs_mul (a := s) (b := p - P) (A := 2) (B := el) (by grind) (by grind) (by grind) (by grind)
  have m2 := rabs_mul (a := P) (b := s - S) (A := P) (B := es) (by grind) (by grind) (by grind) (by grind)
  have e1 : s * p - S * P = s * (p - P) + P * (s - S) := by grind
  have m3 := rabs_mul (a := s * p - S * P) (b := 2 * t - 1) (A := 2 * el + a) (B := 1) (by grind) (by grind) (by grind) (by grind)
  have sp := Rat.mul_nonneg S0 n4.1
  have m4 := rabs_mul (a := S * P) (b := t - T) (A := S * P) (B := 6 * eh) (by grind) (by grind) (by grind) (by grind)
  have eq : l + s * p * (2 * t - 1) = L + S * P * (2 * T - 1) + (l - L) + (s * p - S * P) * (2 * t - 1) + 2 * (S * P * (t - T)) := by grind
  exact ⟨hx.fin, by grind, by grind⟩
theorem Ap.sides {x : UInt64} {X e : Rat} (h : Ap x X e) : -e ≤ fv x - X ∧ fv x - X ≤ e := ⟨by have := h.lo; grind, by have := h.hi; grind⟩
theorem canc2 {u t s : Rat} (k : Rat) (ht : 0 < t) (hs : 0 < s) : s / t * (k * (u * t / s)) = k * u := by grind
section
variable {r g b top M m : Int} (C : Col r g b top M m)
include C
/-- V * (the error of S) -/
theorem Col.ve : (M : Rat) / top * (6 * (uu * top / M)) ≤ 6 * uu := by
  have tp := castR_pos C.d.p
  have u0 := uu0
  rcases Int.lt_or_le 0 M with h | h
  · rw [canc2 6 tp (castR_pos h)]; exact Rat.le_refl
  · have : M = 0 := by have := C.M0; omega
    rw [this, i0]; grind
theorem Col.vs : (M : Rat) / top * (((M - m : Int) : Rat) / M) = ((M - m : Int) : Rat) / top := by
  have tp := castR_pos C.d.p
  rcases Int.lt_or_le 0 M with h | h
  · have hp := castR_pos h
    grind
  · have h1 : M = 0 := by have := C.M0; omega
    have h2 : M - m = 0 := by have := C.M0; omega
    rw [h2, h1, i0]; grind
theorem Col.se (k : Rat) (hk : 0 ≤ k) : ((M - m : Int) : Rat) / top * (k * (uu * top / ((M - m : Int) : Rat))) ≤ k * uu := by
  have tp := castR_pos C.d.p
  have u0 := uu0
  have := Rat.mul_nonneg hk u0
  by_cases h : M - m = 0
  · rw [h, i0]; grind
  · rw [canc2 k tp (castR_pos (show 0 < M - m by have := C.M0; omega))]; exact Rat.le_refl
theorem Col.mdv : mn1 (((M + m : Int) : Rat) / (2 * top)) = ((Min.min (M + m) (2 * top - (M + m)) : Int) : Rat) / (2 * top) := by
  have tp := castR_pos C.d.p
  have hM := C.M0
  unfold mn1
  rcases Int.lt_or_le top (M + m) with h | h
  · rw [show Min.min (M + m) (2 * top - (M + m)) = 2 * top - (M + m) by omega]
    have h' : ((top + 1 : Int) : Rat) ≤ ((M + m : Int) : Rat) := castR_le (by omega)
    rw [Rat.intCast_add, i1] at h'
    have : ¬ ((M + m : Int) : Rat) / (2 * top) ≤ 1 / 2 := by
      intro hh
      have h3 := Rat.mul_le_mul_of_nonneg_right hh (show 0 ≤ 2 * (top : Rat) by grind)
      have e : ((M + m : Int) : Rat) / (2 * top) * (2 * top) = ((M + m : Int) : Rat) := by
        generalize ((M + m : Int) : Rat) = l at *
        grind
      rw [e] at h3
      grind
    rw [if_neg this, Rat.intCast_sub (2 * top), Rat.intCast_mul, i2]
    generalize ((M + m : Int) : Rat) = l at *
    grind
  · rw [show Min.min (M + m) (2 * top - (M + m)) = M + m by omega]
    have h' := castR_le h
    have : ((M + m : Int) : Rat) / (2 * top) ≤ 1 / 2 := div_le_of (by grind) (by grind)
    rw [if_pos this]
theorem Col.me (k : Rat) (hk : 0 ≤ k) : ((Min.min (M + m) (2 * top - (M + m)) : Int) : Rat) / (2 * top) * (k * (uu * top / ((Min.min (M + m) (2 * top - (M + m)) : Int) : Rat))) ≤ k * uu := by
  have tp := castR_pos C.d.p
  have u0 := uu0
  have hku := Rat.mul_nonneg hk u0
  have hM := C.M0
  generalize hmd : Min.min (M + m) (2 * top - (M + m)) = md
  by_cases h : md = 0
  · rw [h, i0]; grind
  · have hp := castR_pos (show 0 < md by omega)
    have e := canc2 (u := uu) k tp hp
    have e2 : (md : Rat) / (2 * top) = md / top / 2 := by grind
    rw [e2]
    generalize uu * top / (md : Rat) = κ at *
    grind
theorem Col.ms : ((M - m : Int) : Rat) / ((Min.min (M + m) (2 * top - (M + m)) : Int) : Rat) * (((Min.min (M + m) (2 * top - (M + m)) : Int) : Rat) / (2 * top)) = ((M - m : Int) : Rat) / (2 * top) := by
  have tp := castR_pos C.d.p
  have hM := C.M0
  generalize hmd : Min.min (M + m) (2 * top - (M + m)) = md
  by_cases h : md = 0
  · have h2 : M - m = 0 := by omega
    rw [h2, h, i0]; grind
  · have hp := castR_pos (show 0 < md by omega)
    generalize ((M - m : Int) : Rat) = sp at *
    grind
end
end
end
section
section
open PySem PySem.Flt PySem.Float64
theorem val_add_self {x : UInt64} (hx : Fin x) (h1 : fv x ≤ 1) (h0 : 0 ≤ fv x) : Fin (add x x) ∧ fv (add x x) = 2 * fv x := by
  have hr := add_rnd hx hx (big_of (by grind) (by grind))
  refine ⟨hr.fin, ?_⟩
  obtain ⟨a, m, e, hd⟩ := hx
  obtain ⟨z, w⟩ := add_right hd hd
  by_cases hS : val x + val x = 0
  · have : val x = 0 := by omega
    have hx0 : fv x = 0 := by unfold fv; rw [this]; grind
    have e1 : fv x + fv x = fv 0 := by rw [fv_z, hx0]; grind
    have e2 : fv (add x x) = fv 0 := Rat.le_antisymm (rnd_le hr fin_z (by rw [e1]; exact Rat.le_refl)) (rnd_ge hr fin_z (by rw [e1]; exact Rat.le_refl))
    rw [e2, fv_z, hx0]; grind
  · have hR := w hS
    have hn := val_natAbs hd
    obtain ⟨t, ht⟩ := grid ((e + 1074).toNat + 1) m (Nat.le_of_lt (mant_lt hd))
    have hW : (val x + val x).natAbs = m * 2 ^ ((e + 1074).toNat + 1) := by
      have : (val x + val x).natAbs = 2 * (val x).natAbs := by omega
      rw [this, hn, Nat.pow_succ]; ac_rfl
    have hle : (val x + val x).natAbs ≤ 2 ^ 1974 := by
      have k1 : val x ≤ val c1 := by rw [← fv_le, fv_c1]; exact h1
      have k0 : 0 ≤ val x := by
        have : fv 0 ≤ fv x := by rw [fv_z]; exact h0
        rw [fv_le] at this
        have e : val 0 = 0 := by kernel_rfl
        rw [e] at this; exact this
      have kc : val c1 = ((2 ^ 1074 : Nat) : Int) := by kernel_rfl
      rw [kc] at k1
      have : (val x + val x).natAbs ≤ 2 * 2 ^ 1074 := by omega
      refine Nat.le_trans this ?_
      rw [← Nat.pow_succ']
      exact Nat.pow_le_pow_right (by decide) (by decide)
    obtain ⟨_, hv⟩ := exact_ri hR hle (ht.trans hW.symm)
    rw [sgn_self] at hv
    unfold fv
    rw [hv, Rat.intCast_add]; grind
section
variable {r g b top M m : Int} (C : Col r g b top M m)
include C
theorem Col.rs : (0 : Rat) ≤ (r : Rat) / top ∧ (r : Rat) / top ≤ 1 ∧ 0 ≤ (g : Rat) / top ∧ (g : Rat) / top ≤ 1 ∧ 0 ≤ (b : Rat) / top ∧ (b : Rat) / top ≤ 1 := by
  have tp := castR_pos C.d.p
  have h : ∀ a : Int, 0 ≤ a → a ≤ top → (0 : Rat) ≤ (a : Rat) / top ∧ (a : Rat) / top ≤ 1 := fun a a0 a1 => ⟨le_div_of tp (by have := castR_nn a0; grind), div_le_of tp (by have := castR_le a1; grind)⟩
  exact ⟨(h r C.r0 C.r1).1, (h r C.r0 C.r1).2, (h g C.g0 C.g1).1, (h g C.g0 C.g1).2, (h b C.b0 C.b1).1, (h b C.b0 C.b1).2⟩
theorem Col.light_grey (h : M - m = 0) : fv (light (sh r top) (sh g top) (sh b top)) = fv (sh M top) := by
  obtain ⟨a, a0, a1⟩ := C.sM
  obtain ⟨k1, k2⟩ := val_add_self a.fin a1 a0
  unfold light
  rw [C.max, C.min, show m = M by omega]
  have e : fv (add (sh M top) (sh M top)) / fv c2 = fv (sh M top) := by rw [k2, fv_c2]; grind
  have hr := div_rnd k1 fin_c2 (by rw [fv_c2]; decide) (by rw [e]; exact big_of (by grind) (by grind))
  exact rnd_exact hr a.fin e
/-- the way back by hsv: value, saturation and hue in any near form -/
theorem Col.hsv_ideal {Y c x : Rat} (hx : x = (m : Rat) + ((M - m : Int) : Rat) * tz (Y + c)) : (M : Rat) / top * (1 - ((M - m : Int) : Rat) / M * (1 - tz (Y + c))) = x / top := by
  have e := C.vs
  have tp := castR_pos C.d.p
  have e1 : (M : Rat) / top * (1 - ((M - m : Int) : Rat) / M * (1 - tz (Y + c))) = M / top - ((M : Rat) / top * (((M - m : Int) : Rat) / M)) * (1 - tz (Y + c)) := by grind
  rw [e1, e, hx]
  generalize tz (Y + c) = T at *
  rw [Rat.intCast_sub]; grind
theorem Col.hls_ideal {Y c x : Rat} (hx : x = (m : Rat) + ((M - m : Int) : Rat) * tz (Y + c)) : ((M + m : Int) : Rat) / (2 * top) + ((M - m : Int) : Rat) / ((Min.min (M + m) (2 * top - (M + m)) : Int) : Rat) * mn1 (((M + m : Int) : Rat) / (2 * top)) * (2 * tz (Y + c) - 1) = x / top := by
  have tp := castR_pos C.d.p
  rw [C.mdv, C.ms, hx]
  generalize tz (Y + c) = T at *
  rw [Rat.intCast_sub, Rat.intCast_add]; grind
end
end
end
section
section
open PySem PySem.W PySem.Flt PySem.Float64 PyProof.Rows
theorem mm_of {r g b M m : Int} (hM : max (max r g) b = M) (hm : min (min r g) b = m) (x : r ≤ g) (y : g ≤ b) : M = b ∧ m = r := by
  subst hM hm; rw [Int.max_eq_right x, Int.max_eq_right y, Int.min_eq_left x, Int.min_eq_left (Int.le_trans x y)]; exact ⟨rfl, rfl⟩
theorem mm_of2 {r g b M m : Int} (hM : max (max r g) b = M) (hm : min (min r g) b = m) (x : r ≤ b) (y : b ≤ g) : M = g ∧ m = r := by
  subst hM hm; rw [Int.max_eq_right (Int.le_trans x y), Int.max_eq_left y, Int.min_eq_left (Int.le_trans x y), Int.min_eq_left x]; exact ⟨rfl, rfl⟩
theorem mm_of3 {r g b M m : Int} (hM : max (max r g) b = M) (hm : min (min r g) b = m) (x : b ≤ r) (y : r ≤ g) : M = g ∧ m = b := by
  subst hM hm; rw [Int.max_eq_right y, Int.max_eq_left (Int.le_trans x y), Int.min_eq_left y, Int.min_eq_right x]; exact ⟨rfl, rfl⟩
theorem mm_of4 {r g b M m : Int} (hM : max (max r g) b = M) (hm : min (min r g) b = m) (x : g ≤ r) (y : r ≤ b) : M = b ∧ m = g := by
  subst hM hm; rw [Int.max_eq_left x, Int.max_eq_right y, Int.min_eq_right x, Int.min_eq_left (Int.le_trans x y)]; exact ⟨rfl, rfl⟩
theorem mm_of5 {r g b M m : Int} (hM : max (max r g) b = M) (hm : min (min r g) b = m) (x : g ≤ b) (y : b ≤ r) : M = r ∧ m = g := by
  subst hM hm; rw [Int.max_eq_left (Int.le_trans x y), Int.max_eq_left y, Int.min_eq_right (Int.le_trans x y), Int.min_eq_left x]; exact ⟨rfl, rfl⟩
theorem mm_of6 {r g b M m : Int} (hM : max (max r g) b = M) (hm : min (min r g) b = m) (x : b ≤ g) (y : g ≤ r) : M = r ∧ m = b := by
  subst hM hm; rw [Int.max_eq_left y, Int.max_eq_left (Int.le_trans x y), Int.min_eq_right y, Int.min_eq_right x]; exact ⟨rfl, rfl⟩
theorem fm6 {s a c : Int} (h0 : 0 ≤ c) (h1 : c < 6 * s) (e : a = c ∨ a + 6 * s = c) : a.fmod (6 * s) = c := by
  rcases e with e | e
  · subst e; exact fmod_small h0 h1
  · rw [fmod_negs (by omega) (by omega), e]
theorem hn_bd {r g b M m : Int} (k : (m ≤ r ∧ r ≤ M) ∧ (m ≤ g ∧ g ≤ M) ∧ (m ≤ b ∧ b ≤ M)) : 0 ≤ hn r g b M (M - m) ∧ hn r g b M (M - m) ≤ 6 * (M - m) := by
  unfold hn; repeat' split
  all_goals omega
theorem hn_ltm {r g b M m : Int} (k : (m ≤ r ∧ r ≤ M) ∧ (m ≤ g ∧ g ≤ M) ∧ (m ≤ b ∧ b ≤ M)) (h : M - m ≠ 0) : hn r g b M (M - m) < 6 * (M - m) := by
  unfold hn; repeat' split
  all_goals omega
theorem Col.place {r g b top M m : Int} (C : Col r g b top M m) (h : M - m ≠ 0) : placeOf r g b (M - m) = hn r g b M (M - m) := by
  have hM := C.hM; have hm := C.hm
  have k0 := (hn_bd C.bd).1
  have k1 := hn_ltm C.bd h
  clear C
  unfold placeOf
  by_cases x : r ≤ g
  · rw [if_pos x]
    by_cases y : g ≤ b
    · rw [if_pos y]; obtain ⟨e1, e2⟩ := mm_of hM hm x y; clear hM hm; subst e1 e2; refine fm6 k0 k1 ?_; clear k0 k1; unfold hn; rw [if_neg (by omega)]; split <;> exact Or.inl (by omega)
    · rw [if_neg y]
      by_cases z : r ≤ b
      · rw [if_pos z]; obtain ⟨e1, e2⟩ := mm_of2 hM hm z (Int.le_of_not_le y); clear hM hm; subst e1 e2; refine fm6 k0 k1 ?_; clear k0 k1; unfold hn; rw [if_neg (by omega), if_pos rfl]; exact Or.inl (by omega)
      · rw [if_neg z]; obtain ⟨e1, e2⟩ := mm_of3 hM hm (Int.le_of_not_le z) x; clear hM hm; subst e1 e2; refine fm6 k0 k1 ?_; clear k0 k1; unfold hn; by_cases c : r = M; rw [if_pos c, if_neg (by omega)]; exact Or.inl (by omega); rw [if_neg c, if_pos rfl]; exact Or.inl (by omega)
  · rw [if_neg x]
    by_cases y : r ≤ b
    · rw [if_pos y]; obtain ⟨e1, e2⟩ := mm_of4 hM hm (Int.le_of_not_le x) y; clear hM hm; subst e1 e2; refine fm6 k0 k1 ?_; clear k0 k1; unfold hn; by_cases c : r = M; rw [if_pos c, if_pos (by omega)]; exact Or.inl (by omega); rw [if_neg c, if_neg (by omega)]; exact Or.inl (by omega)
    · rw [if_neg y]
      by_cases z : g ≤ b
      · rw [if_pos z]; obtain ⟨e1, e2⟩ := mm_of5 hM hm z (Int.le_of_not_le y); clear hM hm; subst e1 e2; refine fm6 k0 k1 ?_; clear k0 k1; unfold hn; rw [if_pos rfl]; split; exact Or.inr (by omega); exact Or.inl (by omega)
      · rw [if_neg z]; obtain ⟨e1, e2⟩ := mm_of6 hM hm (Int.le_of_not_le z) (Int.le_of_not_le x); clear hM hm; subst e1 e2; refine fm6 k0 k1 ?_; clear k0 k1; unfold hn; rw [if_pos rfl, if_neg (by omega)]; exact Or.inl (by omega)
theorem sh_is {x : UInt64} {a top : Int} {g : Rat} (hT : Dep top) (a0 : 0 ≤ a) (a1 : a ≤ top) (h : Ap x ((a : Rat) / top) g) (hg0 : 0 ≤ g) (hg : g ≤ 200 * uu) (ht : top ≤ 256) : Is x a top := by
  have tp := castR_pos hT.p
  have t2 := castR_le ht
  have x0 : 0 ≤ (a : Rat) / top := le_div_of tp (by have := castR_nn a0; grind)
  have x1 : (a : Rat) / top ≤ 1 := div_le_of tp (by have := castR_le a1; grind)
  have e256 : ((256 : Int) : Rat) = 256 := rfl
  rw [e256] at t2
  refine is_of h hT.p (by omega) (by grind) (by grind) (by grind) hg0 ?_
  have m := rabs_mul (a := g) (b := (top : Rat)) (A := 200 * uu) (B := 256) (by grind) (by grind) (by grind) (by grind)
  have : 200 * uu * 256 ≤ 1 / 4194304 := by decide +kernel
  grind
theorem ten_is {x : UInt64} {X g : Rat} {P top : Int} (hT : Dep top) (ht : top ≤ 256) (h : Ap x X g) (x0 : -4 ≤ X) (x1 : X ≤ 4) (hP : X * (10000 * (top : Rat)) = (P : Rat)) (hg0 : 0 ≤ g) (hg : g ≤ 30 * uu) : Is x P (10000 * top) := by
  have tp := castR_pos hT.p
  have t2 := castR_le ht
  have e256 : ((256 : Int) : Rat) = 256 := rfl
  rw [e256] at t2
  have ec : ((10000 * top : Int) : Rat) = 10000 * (top : Rat) := by rw [Rat.intCast_mul]; rfl
  refine is_of h (by have := hT.p; omega) (by omega) x0 x1 (by rw [ec]; exact hP) hg0 ?_
  rw [ec]
  have m := rabs_mul (a := g) (b := 10000 * (top : Rat)) (A := 30 * uu) (B := 2560000) (by grind) (by grind) (by grind) (by grind)
  have : 30 * uu * 2560000 ≤ 1 / 4194304 := by decide +kernel
  grind
section
variable {r g b top M m : Int} (C : Col r g b top M m) (ht : top ≤ 256)
include C ht
theorem Col.l_is : Is (light (sh r top) (sh g top) (sh b top)) (M + m) (2 * top) := by
  obtain ⟨h, _, _⟩ := C.light_ap
  have tp := castR_pos C.d.p
  have t2 := castR_le ht
  have e256 : ((256 : Int) : Rat) = 256 := rfl
  rw [e256] at t2
  have hM := C.M0
  have l0 := castR_nn (show 0 ≤ M + m by omega)
  have l1 := castR_le (show M + m ≤ 2 * top by omega)
  have ec : ((2 * top : Int) : Rat) = 2 * (top : Rat) := by rw [Rat.intCast_mul]; rfl
  rw [ec] at l1
  have u0 := uu0
  refine is_of h (by have := C.d.p; omega) (by omega) (by have := le_div_of (a := ((M + m : Int) : Rat)) (b := 0) (t := 2 * (top : Rat)) (by grind) (by grind); grind) (by have := div_le_of (a := ((M + m : Int) : Rat)) (b := 1) (t := 2 * (top : Rat)) (by grind) (by grind); grind) (by rw [ec]; generalize ((M + m : Int) : Rat) = l at *; grind) (by grind) ?_
  rw [ec]
  have m := rabs_mul (a := 3 * uu) (b := 2 * (top : Rat)) (A := 3 * uu) (B := 512) (by grind) (by grind) (by grind) (by grind)
  have : 3 * uu * 512 ≤ 1 / 4194304 := by decide +kernel
  grind
theorem Col.quo_is {x : UInt64} {Z W : Int} (k : Rat) (h : Ap x ((Z : Rat) / W) (k * (uu * top / W))) (w0 : 0 < W) (w1 : W ≤ 2000) (z0 : 0 ≤ Z) (z1 : Z ≤ W) (k0 : 0 ≤ k) (k1 : k ≤ 60) : Is x Z W := by
  have tp := castR_pos C.d.p
  have wp := castR_pos w0
  have u0 := uu0
  have t2 := castR_le ht
  have e256 : ((256 : Int) : Rat) = 256 := rfl
  rw [e256] at t2
  have x0 : 0 ≤ (Z : Rat) / W := le_div_of wp (by have := castR_nn z0; grind)
  have x1 : (Z : Rat) / W ≤ 1 := div_le_of wp (by have := castR_le z1; grind)
  have q := quo (u := uu) (t := top) wp
  have q0 : 0 ≤ uu * top / W := le_div_of wp (by have := Rat.mul_nonneg u0 (Rat.le_of_lt tp); grind)
  refine is_of h w0 (by omega) (by grind) (by grind) (by grind) (Rat.mul_nonneg k0 q0) ?_
  rw [Rat.mul_assoc, q]
  have m := rabs_mul (a := k) (b := uu * (top : Rat)) (A := 60) (B := uu * 256) (by grind) (by grind) (by have := Rat.mul_nonneg u0 (Rat.le_of_lt tp); grind) (by have := Rat.mul_le_mul_of_nonneg_left t2 u0; grind)
  have : 60 * (uu * 256) ≤ 1 / 4194304 := by decide +kernel
  grind
end
section
variable {r g b top M m : Int} (C : Col r g b top M m)
include C
theorem Col.z1 (h : M - m ≠ 0) : ¬ isZero (sh M top) = true ∧ ¬ isZero (rg (sh r top) (sh g top) (sh b top)) = true := by
  have hM := C.M0
  have tp := castR_pos C.d.p
  have t2 := C.d.r.2
  have us := uus
  obtain ⟨k1, k2⟩ := C.kap h
  have hr := C.rg_ap
  have hl := hr.lo
  have h1 : 1 / (top : Rat) ≤ ((M - m : Int) : Rat) / top := div_le_div tp k1
  have h2 : 1 / 16384 ≤ 1 / (top : Rat) := le_div_of tp (by grind)
  have hb := C.rg_b
  refine ⟨fun e => ?_, fun e => ?_⟩
  · have := (isZero_iff C.sM.1.fin).mp e; grind
  · have := (isZero_iff hr.fin).mp e; grind
theorem Col.z2 (h : M - m ≠ 0) : (fle (light (sh r top) (sh g top) (sh b top)) cHalf = true → ¬ isZero (add (sh M top) (sh m top)) = true) ∧ (fle (light (sh r top) (sh g top) (sh b top)) cHalf = false → ¬ isZero (sub (sub c2 (sh M top)) (sh m top)) = true) := by
  have hM := C.M0
  have tp := castR_pos C.d.p
  have t2 := C.d.r.2
  have us := uus
  have u0 := uu0
  obtain ⟨k1, k2⟩ := C.kap h
  have h2 : 1 / 16384 ≤ 1 / (top : Rat) := le_div_of tp (by grind)
  refine ⟨fun _ e => ?_, fun _ e => ?_⟩
  · obtain ⟨s, _, _⟩ := C.sum_ap
    have := (isZero_iff s.fin).mp e
    have hs := castR_le (show 1 ≤ M + m by omega)
    have h1 : 1 / (top : Rat) ≤ ((M + m : Int) : Rat) / top := div_le_div tp hs
    have := s.lo
    grind
  · obtain ⟨a, a0, a1⟩ := C.sM
    obtain ⟨c, c0, c1⟩ := C.sm
    obtain ⟨f1, f2, f3, f4⟩ := C.fr
    have w1 := ap_sub (g := 3 / 2 * uu) (ap_self fin_c2) a (by rw [fv_c2]; grind) (by rw [fv_c2]; grind) (by grind) (by grind)
    rw [fv_c2] at w1
    have w2 := ap_sub (g := 3 * uu) w1 c (by grind) (by grind) (by grind) (by grind)
    have := (isZero_iff w2.fin).mp e
    have hs := castR_le (show M + m + 1 ≤ 2 * top by omega)
    rw [Rat.intCast_add, Rat.intCast_mul, Rat.intCast_add, i1, i2] at hs
    have h1 : 1 / (top : Rat) ≤ (2 * (top : Rat) - M - m) / top := div_le_div tp (by grind)
    have e : (2 * (top : Rat) - M - m) / top = 2 - (M : Rat) / top - m / top := by grind
    have := w2.lo
    grind
end
end
end
section
section
open PySem PySem.W PySem.Flt PySem.Float64 PyProof.Rows
theorem cl01_id {x : Rat} (h0 : 0 ≤ x) (h1 : x ≤ 1) : cl01 x = x := by unfold cl01; grind
section
variable {r g b top M m : Int} (C : Col r g b top M m)
include C
theorem Col.backV : Ap (hsvR (hueOf (sh r top) (sh g top) (sh b top)) (satV (sh r top) (sh g top) (sh b top)) (sh M top)) ((r : Rat) / top) (70 * uu) ∧ Ap (hsvG (hueOf (sh r top) (sh g top) (sh b top)) (satV (sh r top) (sh g top) (sh b top)) (sh M top)) ((g : Rat) / top) (70 * uu) ∧ Ap (hsvB (hueOf (sh r top) (sh g top) (sh b top)) (satV (sh r top) (sh g top) (sh b top)) (sh M top)) ((b : Rat) / top) (70 * uu) := by
  obtain ⟨ha, h0, h1⟩ := C.hue_ap
  obtain ⟨sa, s0, s1⟩ := C.satV_ap
  obtain ⟨va, v0, v1⟩ := C.sM
  obtain ⟨f1, f2, f3, f4⟩ := C.fr
  have R := C.rep
  have u0 := uu0
  have e1 := C.ve
  have e2 := C.vs
  have e3 := C.se 54 (by decide)
  have tp := castR_pos C.d.p
  have hM := C.M0
  obtain ⟨pr, pg, pb, _⟩ := hsv_ap ha.fin sa.fin va.fin h0 (by grind) s0 s1 v0 v1
  have S0 : 0 ≤ ((M - m : Int) : Rat) / M := by
    rcases Int.lt_or_le 0 M with h | h
    · exact le_div_of (castR_pos h) (by have := castR_nn (show 0 ≤ M - m by omega); grind)
    · have : M - m = 0 := by omega
      rw [this, i0]; grind
  have hd : (M : Rat) / top * (((M - m : Int) : Rat) / M) * (6 * (9 * (uu * top / ((M - m : Int) : Rat)))) ≤ 54 * uu := by
    rw [e2]
    have : (6 : Rat) * (9 * (uu * top / ((M - m : Int) : Rat))) = 54 * (uu * top / ((M - m : Int) : Rat)) := by grind
    rw [this]; exact e3
  have key : ∀ {x : UInt64} {c X : Rat}, Ap x (fv (sh M top) * (1 - fv (satV (sh r top) (sh g top) (sh b top)) * (1 - tz (6 * fv (hueOf (sh r top) (sh g top) (sh b top)) + c)))) (8 * uu) → X = (m : Rat) + ((M - m : Int) : Rat) * tz ((hn r g b M (M - m) : Rat) / ((M - m : Int) : Rat) + c) → Ap x (X / top) (70 * uu) := fun {x c X} hx hX => by
    rw [← C.hsv_ideal hX]
    exact hsv_inv hx s0 (by grind) f1 S0 va.sides.1 va.sides.2 sa.sides.1 sa.sides.2 ha.sides.1 ha.sides.2 e1 hd (by grind)
  exact ⟨key pr R.r, key pg R.g, key pb R.b⟩
theorem Col.backL : Ap (hlsR (hueOf (sh r top) (sh g top) (sh b top)) (light (sh r top) (sh g top) (sh b top)) (satL (sh r top) (sh g top) (sh b top))) ((r : Rat) / top) (200 * uu) ∧ Ap (hlsG (hueOf (sh r top) (sh g top) (sh b top)) (light (sh r top) (sh g top) (sh b top)) (satL (sh r top) (sh g top) (sh b top))) ((g : Rat) / top) (200 * uu) ∧ Ap (hlsB (hueOf (sh r top) (sh g top) (sh b top)) (light (sh r top) (sh g top) (sh b top)) (satL (sh r top) (sh g top) (sh b top))) ((b : Rat) / top) (200 * uu) := by
  obtain ⟨ha, h0, h1⟩ := C.hue_ap
  obtain ⟨sa, s0, s1⟩ := C.satL_ap
  obtain ⟨la, l0, l1⟩ := C.light_ap
  have R := C.rep
  have u0 := uu0
  have e1 := C.me 11 (by decide)
  have e2 := C.ms
  have e3 := C.se 27 (by decide)
  have tp := castR_pos C.d.p
  have hM := C.M0
  obtain ⟨pr, pg, pb⟩ := hls_ap ha.fin la.fin sa.fin (by grind) (by grind) l0 l1 s0 s1
  have S0 : 0 ≤ ((M - m : Int) : Rat) / ((Min.min (M + m) (2 * top - (M + m)) : Int) : Rat) := by
    generalize hmd : Min.min (M + m) (2 * top - (M + m)) = md
    rcases Int.lt_or_le 0 md with h | h
    · exact le_div_of (castR_pos h) (by have := castR_nn (show 0 ≤ M - m by omega); grind)
    · have : M - m = 0 := by omega
      rw [this, i0]; grind
  have ll0 : 0 ≤ ((M + m : Int) : Rat) / (2 * top) := le_div_of (by grind) (by have := castR_nn (show 0 ≤ M + m by omega); grind)
  have ll1 : ((M + m : Int) : Rat) / (2 * top) ≤ 1 := div_le_of (by grind) (by have := castR_le (show M + m ≤ 2 * top by omega); rw [Rat.intCast_mul, i2] at this; grind)
  rw [← C.mdv] at e1 e2
  have hd : ((M - m : Int) : Rat) / ((Min.min (M + m) (2 * top - (M + m)) : Int) : Rat) * mn1 (((M + m : Int) : Rat) / (2 * top)) * (6 * (9 * (uu * top / ((M - m : Int) : Rat)))) ≤ 27 * uu := by
    rw [e2]
    have : ((M - m : Int) : Rat) / (2 * top) * (6 * (9 * (uu * top / ((M - m : Int) : Rat)))) = ((M - m : Int) : Rat) / top * (27 * (uu * top / ((M - m : Int) : Rat))) := by
      generalize uu * top / ((M - m : Int) : Rat) = κ at *
      generalize ((M - m : Int) : Rat) = sp at *
      grind
    rw [this]; exact e3
  have key : ∀ {x : UInt64} {c X : Rat}, Ap x (fv (light (sh r top) (sh g top) (sh b top)) + fv (satL (sh r top) (sh g top) (sh b top)) * mn1 (fv (light (sh r top) (sh g top) (sh b top))) * (2 * tz (6 * fv (hueOf (sh r top) (sh g top) (sh b top)) + c) - 1)) (120 * uu) → X = (m : Rat) + ((M - m : Int) : Rat) * tz ((hn r g b M (M - m) : Rat) / ((M - m : Int) : Rat) + c) → Ap x (X / top) (200 * uu) := fun {x c X} hx hX => by
    rw [← C.hls_ideal hX]
    exact hls_inv hx l0 l1 ll0 ll1 s0 (by grind) S0 la.sides.1 la.sides.2 sa.sides.1 sa.sides.2 ha.sides.1 ha.sides.2 e1 hd (by grind)
  exact ⟨key pr R.r, key pg R.g, key pb R.b⟩
theorem Col.backY : Ap (yR (yiqY (sh r top) (sh g top) (sh b top)) (yiqI (sh r top) (sh g top) (sh b top)) (yiqQ (sh r top) (sh g top) (sh b top))) ((r : Rat) / top) (130 * uu) ∧ Ap (yG (yiqY (sh r top) (sh g top) (sh b top)) (yiqI (sh r top) (sh g top) (sh b top)) (yiqQ (sh r top) (sh g top) (sh b top))) ((g : Rat) / top) (130 * uu) ∧ Ap (yB (yiqY (sh r top) (sh g top) (sh b top)) (yiqI (sh r top) (sh g top) (sh b top)) (yiqQ (sh r top) (sh g top) (sh b top))) ((b : Rat) / top) (130 * uu) := by
  have u0 := uu0
  have us := uus
  obtain ⟨r0, r1, g0, g1, b0, b1⟩ := C.rs
  have ar := (sh_ap C.d C.r0 C.r1).1.wide (f := uu) (by grind)
  have ag := (sh_ap C.d C.g0 C.g1).1.wide (f := uu) (by grind)
  have ab := (sh_ap C.d C.b0 C.b1).1.wide (f := uu) (by grind)
  have y := (yiqY_ap ar ag ab r0 r1 g0 g1 b0 b1).wide (f := 30 * uu) (by grind)
  have i := yiqI_ap ar ag ab r0 r1 g0 g1 b0 b1
  have q := yiqQ_ap ar ag ab r0 r1 g0 g1 b0 b1
  have t1 := yR_ap y i q (by grind) (by grind) (by grind) (by grind) (by grind) (by grind) (by grind) (by grind)
  have t2 := yG_ap y i q (by grind) (by grind) (by grind) (by grind) (by grind) (by grind) (by grind) (by grind)
  have t3 := yB_ap y i q (by grind) (by grind) (by grind) (by grind) (by grind) (by grind) (by grind) (by grind)
  generalize (r : Rat) / top = R at *
  generalize (g : Rat) / top = G at *
  generalize (b : Rat) / top = B at *
  have e1 : 3 / 10 * R + 59 / 100 * G + 11 / 100 * B + 410 / 433 * (599 / 1000 * R - 2773 / 10000 * G - 3217 / 10000 * B) + 270 / 433 * (213 / 1000 * R - 5251 / 10000 * G + 3121 / 10000 * B) = R := by grind
  have e2 : 3 / 10 * R + 59 / 100 * G + 11 / 100 * B - 7020 / 25547 * (599 / 1000 * R - 2773 / 10000 * G - 3217 / 10000 * B) - 16240 / 25547 * (213 / 1000 * R - 5251 / 10000 * G + 3121 / 10000 * B) = G := by grind
  have e3 : 3 / 10 * R + 59 / 100 * G + 11 / 100 * B - 480 / 433 * (599 / 1000 * R - 2773 / 10000 * G - 3217 / 10000 * B) + 740 / 433 * (213 / 1000 * R - 5251 / 10000 * G + 3121 / 10000 * B) = B := by grind
  rw [e1, cl01_id r0 r1] at t1
  rw [e2, cl01_id g0 g1] at t2
  rw [e3, cl01_id b0 b1] at t3
  exact ⟨t1.wide (by grind), t2.wide (by grind), t3.wide (by grind)⟩
end
end
end
section
section
open PySem PySem.W PySem.Flt PySem.Float64 PyProof.Rows
theorem feq_self {x : UInt64} (h : Fin x) : feq x x = true := (feq_iff h h).mpr rfl
theorem fmax3_eq {x y z v : UInt64} (hx : Fin x) (hy : Fin y) (hz : Fin z) (hv : Fin v) (l1 : fv x ≤ fv v) (l2 : fv y ≤ fv v) (l3 : fv z ≤ fv v) (h : x = v ∨ y = v ∨ z = v) : feq (fmax3 x y z) v = true := by
  have m2 : ∀ {a c : UInt64}, Fin a → Fin c → Fin (fmax2 a c) ∧ fv a ≤ fv (fmax2 a c) ∧ fv c ≤ fv (fmax2 a c) ∧ (fmax2 a c = a ∨ fmax2 a c = c) := fun {a c} ha hc => by
    have i := flt_iff ha hc
    unfold flt at i
    unfold fmax2
    by_cases h : fv a < fv c
    · rw [if_pos (i.mpr h)]; exact ⟨hc, Rat.le_of_lt h, Rat.le_refl, Or.inr rfl⟩
    · rw [if_neg (fun e => h (i.mp e))]; exact ⟨ha, Rat.le_refl, by grind, Or.inl rfl⟩
  obtain ⟨f1, a1, a2, a3⟩ := m2 hx hy
  obtain ⟨f2, b1, b2, b3⟩ := m2 f1 hz
  unfold fmax3
  rw [feq_iff f2 hv]
  have up : fv (fmax2 (fmax2 x y) z) ≤ fv v := by
    rcases b3 with e | e
    · rw [e]; rcases a3 with e | e <;> rw [e] <;> assumption
    · rw [e]; exact l3
  have dn : fv v ≤ fv (fmax2 (fmax2 x y) z) := by
    rcases h with e | e | e <;> subst e <;> grind
  exact Rat.le_antisymm up dn
theorem grey_eq {r g b M m : Int} (k : (m ≤ r ∧ r ≤ M) ∧ (m ≤ g ∧ g ≤ M) ∧ (m ≤ b ∧ b ≤ M)) (h : M - m = 0) : r = M ∧ g = M ∧ b = M := by omega
theorem colour_fin {w : World} {mean : ExcName → Option Value} {mg mb : Str → Option Value} (p : Addr) (r g b top : Int) (tr tg tb tt : Tok) (hr0 : 0 ≤ r) (hr1 : r ≤ top) (hg0 : 0 ≤ g) (hg1 : g ≤ top) (hb0 : 0 ≤ b) (hb1 : b ≤ top) (ht0 : 0 < top) (ht1 : top ≤ 256) :
   ConT 4 w mean mg mb 87 [.ref p, .int top tt] p (tup [.int r tr, .int g tg, .int b tb]) (fun t => .bool true) := by
  obtain ⟨M, hMe⟩ : ∃ M, max (max r g) b = M := ⟨_, rfl⟩
  obtain ⟨m, hme⟩ : ∃ m, min (min r g) b = m := ⟨_, rfl⟩
  have C : Col r g b top M m := ⟨⟨ht0, by omega⟩, hr0, hr1, hg0, hg1, hb0, hb1, hMe, hme⟩
  clear hMe hme
  have hM := C.M0
  have u0 := uu0
  obtain ⟨ha, h0, h1⟩ := C.hue_ap
  obtain ⟨sa, s0, s1⟩ := C.satV_ap
  obtain ⟨va, v0, v1⟩ := C.sM
  obtain ⟨la, l0, l1⟩ := C.light_ap
  obtain ⟨da, d0, d1⟩ := C.satL_ap
  obtain ⟨A1, A2, A3⟩ := C.backV
  obtain ⟨P1, P2, P3⟩ := C.backL
  obtain ⟨Y1, Y2, Y3⟩ := C.backY
  obtain ⟨_, _, _, w1, w2, w3, w4⟩ := hsv_ap ha.fin sa.fin va.fin h0 (by grind) s0 s1 v0 v1
  obtain ⟨q1, q2, q3, q4, q5, q6⟩ := C.rs
  have fr := (sh_ap C.d C.r0 C.r1).1
  have fg := (sh_ap C.d C.g0 C.g1).1
  have fb := (sh_ap C.d C.b0 C.b1).1
  have yy := yiqY_ap (fr.wide (f := uu) (by grind)) (fg.wide (f := uu) (by grind)) (fb.wide (f := uu) (by grind)) q1 q2 q3 q4 q5 q6
  have yi := yiqI_ap (fr.wide (f := uu) (by grind)) (fg.wide (f := uu) (by grind)) (fb.wide (f := uu) (by grind)) q1 q2 q3 q4 q5 q6
  have yq := yiqQ_ap (fr.wide (f := uu) (by grind)) (fg.wide (f := uu) (by grind)) (fb.wide (f := uu) (by grind)) q1 q2 q3 q4 q5 q6
  have tp := castR_pos C.d.p
  have ngr : grey (sh r top) (sh g top) (sh b top) = false → M - m ≠ 0 := fun e h => by rw [C.grey.mpr h] at e; cases e
  have hn0 := hn_bd C.bd
  have gs : M - m = 0 → satV (sh r top) (sh g top) (sh b top) = 0 ∧ satL (sh r top) (sh g top) (sh b top) = 0 ∧ hueOf (sh r top) (sh g top) (sh b top) = 0 := fun h => by
    unfold satV satL hueOf
    rw [if_pos (C.grey.mpr h), if_pos (C.grey.mpr h), if_pos (C.grey.mpr h)]
    exact ⟨rfl, rfl, rfl⟩
  have z0 : feq 0 0 = true := feq_self fin_z
  have gl : M - m = 0 → feq (light (sh r top) (sh g top) (sh b top)) (sh M top) = true := fun h => (feq_iff la.fin va.fin).mpr (C.light_grey h)
  have e0 := grey_eq C.bd
  refine colour_ok p r g b top tr tg tb tt hr0 hr1 hg0 hg1 hb0 hb1 ht0 ht1 M m (min (M + m) (2 * top - (M + m))) C.hM C.hm rfl (by omega) (by omega) (by omega)
    (sh r top) (sh g top) (sh b top) (sh M top) (hueOf (sh r top) (sh g top) (sh b top)) (satV (sh r top) (sh g top) (sh b top)) (sh M top) (light (sh r top) (sh g top) (sh b top)) (satL (sh r top) (sh g top) (sh b top)) (yiqY (sh r top) (sh g top) (sh b top)) (yiqI (sh r top) (sh g top) (sh b top)) (yiqQ (sh r top) (sh g top) (sh b top)) _ _ _ _ _ _ _ _ _
    rfl rfl rfl rfl rfl rfl C.max rfl rfl rfl rfl rfl rfl rfl rfl rfl rfl rfl rfl rfl rfl
    ?z1 ?z2 ?z3 (C.l_is ht1) ?f5 ?f6 ?f7
    (sh_is C.d hr0 hr1 A1 (by grind) (by grind) ht1) (sh_is C.d hg0 hg1 A2 (by grind) (by grind) ht1) (sh_is C.d hb0 hb1 A3 (by grind) (by grind) ht1)
    (sh_is C.d hr0 hr1 P1 (by grind) (by grind) ht1) (sh_is C.d hg0 hg1 P2 (by grind) (by grind) ht1) (sh_is C.d hb0 hb1 P3 (by grind) (by grind) ht1)
    (sh_is C.d hr0 hr1 Y1 (by grind) (by grind) ht1) (sh_is C.d hg0 hg1 Y2 (by grind) (by grind) ht1) (sh_is C.d hb0 hb1 Y3 (by grind) (by grind) ht1)
    ?s1 ?s2 ?s3 (fun h => by rw [(gs h).2.2]; exact z0) (fun h => by rw [(gs h).1]; exact z0) (fun h => by rw [(gs h).2.1]; exact z0) gl
    ?u4 ?u5 ?u6 ?u7 ?u8 ?u9 (feq_self va.fin) (feq_self ha.fin) (fmax3_eq A1.fin A2.fin A3.fin va.fin w1 w2 w3 w4)
  case z1 => intro h; rw [C.max]; exact C.z1 (ngr h)
  case z2 => intro h; rw [C.max, C.min]; exact ⟨(C.z1 (ngr h)).2, C.z2 (ngr h)⟩
  case z3 =>
    intro _
    obtain ⟨k1, k2, _⟩ := sec_spec ha.fin h0 (by grind)
    refine ⟨k1.finite, Nat.lt_of_le_of_lt k2 (by decide +kernel)⟩
  case f5 =>
    refine ten_is C.d ht1 yy (by grind) (by grind) ?_ (by grind) (by grind)
    rw [Rat.intCast_add, Rat.intCast_add, Rat.intCast_mul, Rat.intCast_mul, Rat.intCast_mul]
    show _ = (3000 : Rat) * _ + 5900 * _ + 1100 * _
    grind
  case f6 =>
    refine ten_is C.d ht1 yi (by grind) (by grind) ?_ (by grind) (by grind)
    rw [Rat.intCast_sub, Rat.intCast_sub, Rat.intCast_mul, Rat.intCast_mul, Rat.intCast_mul]
    show _ = (5990 : Rat) * _ - 2773 * _ - 3217 * _
    grind
  case f7 =>
    refine ten_is C.d ht1 yq (by grind) (by grind) ?_ (by grind) (by grind)
    rw [Rat.intCast_add, Rat.intCast_sub, Rat.intCast_mul, Rat.intCast_mul, Rat.intCast_mul]
    show _ = (2130 : Rat) * _ - 5251 * _ + 3121 * _
    grind
  case s1 =>
    intro h
    rw [C.place h]
    have hsp : 0 < M - m := by omega
    refine C.quo_is ht1 54 ?_ (by omega) (by omega) hn0.1 hn0.2 (by decide) (by decide)
    have ec : ((6 * (M - m) : Int) : Rat) = 6 * ((M - m : Int) : Rat) := by rw [Rat.intCast_mul]; rfl
    rw [ec]
    have k1 : (hn r g b M (M - m) : Rat) / (6 * ((M - m : Int) : Rat)) = (hn r g b M (M - m) : Rat) / ((M - m : Int) : Rat) / 6 := by
      generalize ((M - m : Int) : Rat) = sp at *
      grind
    have k2 : 54 * (uu * top / (6 * ((M - m : Int) : Rat))) = 9 * (uu * top / ((M - m : Int) : Rat)) := by
      have : uu * top / (6 * ((M - m : Int) : Rat)) = uu * top / ((M - m : Int) : Rat) / 6 := by
        generalize ((M - m : Int) : Rat) = sp at *
        generalize uu * top = k at *
        grind
      rw [this]; grind
    rw [k1, k2]; exact ha
  case s2 => intro h; exact C.quo_is ht1 6 sa (by omega) (by omega) (by omega) (by omega) (by decide) (by decide)
  case s3 => intro h; exact C.quo_is ht1 11 da (Int.lt_min.mpr ⟨by omega, by omega⟩) (Int.le_trans (Int.min_le_left _ _) (by omega)) (by omega) (Int.le_min.mpr ⟨by omega, by omega⟩) (by decide) (by decide)
  case u4 => intro h; rw [(gs h).1, (gs h).2.2]; unfold hsvR; rw [if_pos z0, (e0 h).1]; exact feq_self va.fin
  case u5 => intro h; rw [(gs h).1, (gs h).2.2]; unfold hsvG; rw [if_pos z0, (e0 h).2.1]; exact feq_self va.fin
  case u6 => intro h; rw [(gs h).1, (gs h).2.2]; unfold hsvB; rw [if_pos z0, (e0 h).2.2]; exact feq_self va.fin
  case u7 => intro h; rw [(gs h).2.1]; unfold hlsR; rw [if_pos z0]; have := gl h; rw [(feq_iff la.fin fr.fin)]; rw [feq_iff la.fin va.fin] at this; rw [this, (e0 h).1]
  case u8 => intro h; rw [(gs h).2.1]; unfold hlsG; rw [if_pos z0]; have := gl h; rw [(feq_iff la.fin fg.fin)]; rw [feq_iff la.fin va.fin] at this; rw [this, (e0 h).2.1]
  case u9 => intro h; rw [(gs h).2.1]; unfold hlsB; rw [if_pos z0]; have := gl h; rw [(feq_iff la.fin fb.fin)]; rw [feq_iff la.fin va.fin] at this; rw [this, (e0 h).2.2]
end
end
section
set_option maxRecDepth 100000
section
open PySem PySem.W PySem.Calls PyProof.Rows PyProof.Rows.LCg
section
variable {prog : Program} {w : World} {A : Around} {E : Value → Shared → Prop} {s : Shared} {h₀ : Heap} {L : Addr} {m : Str → Option Value} {env : Env}
/-- the iterable is a range by steps; each turn is told by `CompRest` -/
noncomputable def StepSrc (prog : Program) (w : World) (A : Around) (h₀ : Heap) (L : Addr) (m : Str → Option Value) (env : Env) (elt : Expr) (x : Str) (scope : Scope) (cl : List (Str × Addr)) (Fin : Shared → List Value → List (Addr × Obj) → Prop) (xv : Value) (s₁ : Shared) : Prop :=
  ∃ r a b c t u v n news, xv = .ref r ∧ A.handled = none ∧ Fr h₀ L s₁.heap m ∧ News h₀ L s₁.heap news ∧ IsRange s₁.heap r a b c t u v ∧ Builtin.Range.small a b c = true ∧ Builtin.Range.rangeSize a b c = ((n : Nat) : Int) ∧ n ≤ sizeLine ∧
    ∀ s₂ : Shared, (∃ h, s₂ = { s₁ with heap := h }) → CompRest prog w A h₀ L m env elt x scope cl s₂ (fun _ => True) (fun i v => ∃ t, v = .int (a + (i : Int) * c) t) (Fin s₂) n 0 [] news
theorem stepSrc {elt : Expr} {x : Str} {scope : Scope} {cl : List (Str × Addr)} {Fin : Shared → List Value → List (Addr × Obj) → Prop} {r : Addr} {a b c : Int} {t u v : Tok} {n : Nat} {news : List (Addr × Obj)} {s₁ : Shared}
    (hh : A.handled = none) (F : Fr h₀ L s₁.heap m) (N : News h₀ L s₁.heap news) (hr : IsRange s₁.heap r a b c t u v) (hsm : Builtin.Range.small a b c = true) (hn : Builtin.Range.rangeSize a b c = ((n : Nat) : Int)) (hsz : n ≤ sizeLine)
    (h : ∀ g, CompRest prog w A h₀ L m env elt x scope cl { s₁ with heap := g } (fun _ => True) (fun i v => ∃ t, v = .int (a + (i : Int) * c) t) (Fin { s₁ with heap := g }) n 0 [] news) :
    StepSrc prog w A h₀ L m env elt x scope cl Fin (.ref r) s₁ := ⟨r, a, b, c, t, u, v, n, news, rfl, hh, F, N, hr, hsm, hn, hsz, fun _ ⟨g, e⟩ => e ▸ h g⟩
theorem step_walks {I : Addr} (hh : A.handled = none) (a c : Int) (n : Nat) : Walks prog w A I [I] [I] n (fun i v => ∃ t, v = .int (a + (i : Int) * c) t) (fun i h => IsRangeIter h I (a + (i : Nat) * c) ((n : Int) - (i : Nat)) c) := Walks.range hh I a c n
theorem step_st {I : Addr} {a c : Int} {n : Nat} : ∀ i (h h' : Heap) (o : Obj) (nw : List (Addr × Obj)), IsRangeIter h I (a + (i : Nat) * c) ((n : Int) - (i : Nat)) c → h.get? I = some o → h'.get? I = some o → (∀ b o, h₀.get? b = some o → h'.get? b = some o) → News h₀ L h' nw → True → IsRangeIter h' I (a + (i : Nat) * c) ((n : Int) - (i : Nat)) c :=
  fun _ h h' _ _ st e e' _ _ _ => by
    have st' : h.get? I = some _ := st
    show h'.get? I = some _
    rw [e', ← e]; exact st'
theorem assign_comp_step {elt iter : Expr} {x y : Str} {px py : Pos} {scope : Scope} {cl : List (Str × Addr)} {pos spos : Pos} {Q : Flow → Shared → Prop} (F₀ : Fr h₀ L s.heap m) (hLe : env.locals = L)
    (hsw : swapsWith (.ListComp elt [⟨.Name x px, iter, [], 0⟩] scope pos) (some (.Name y py)) spos.line env = pure true)
    (hclos : closureFor scope env = pure cl) (hcell : ∀ z ∈ scope.names, z.2 ≠ .cell) (hkind : scope.kind = .function)
    (hnames : ∀ z ∈ scope.names, z.2 = .local → scope.names.lookup z.1 = some .local) (hx : scope.names.lookup x = some .local)
    (hy : env.kindOf y = some .local) (hp : (env.scope.kind == .class || (env.scope.kind == .module && env.locals != env.globals)) = false)
    (h : wpAny (model prog w) A (eval iter env) (StepSrc prog w A h₀ L m env elt x scope cl (fun s₂ => FinA h₀ L m s₂ y Q)) E s)
    (hs : ∀ x, foldedSetIterable iter env x = pure x := by intro _; rfl) :
    wpAny (model prog w) A (exec (.Assign [.Name y py] (.ListComp elt [⟨.Name x px, iter, [], 0⟩] scope pos) spos) env) Q E s := by
  subst hLe
  rw [exec_Assign_Name_used _ _ _ _ hsw]
  refine wpAny_bind (wpAny_standAt (wpAny_bind ?_))
  show wpAny _ A (do let _ ← comprehension (.ListComp elt [⟨.Name x px, iter, [], 0⟩] scope pos) scope env _ (newList []) false (eval iter env) (some (assign (.Name y py) env))) _ _ s
  refine wpAny_bind (wpAny_mono (wpAny_comprehension_free (use := some (assign (.Name y py) env)) (Q := fun _ s' => Q .next s') rfl hs hclos hkind hnames
    (wpAny_mono h (fun xv s₁ h₁ => ?_) fun _ _ e => e)) (fun _ s' hq => wpAny_pure (wpAny_pure hq)) fun _ _ e => e)
  obtain ⟨r, a, b, c, t, u, v, n, news, rfl, hh, F, N, hr, hsm, hn, hsz, R⟩ := h₁
  refine wpAny_pyIter_range hr hsm ?_
  refine block_U (step_walks hh a c n) hsz (fun i h st => ⟨_, st⟩) step_st hcell hkind hx (by show IsRangeIter _ _ _ _ _; rw [hn]; simpa using Heap.get?_push_size _ rfl) (fun b hb => ?_)
    (F.keeps fun _ _ e => Heap.get?_push_of_some _ e) (N.grown fun _ _ e => Heap.get?_push_of_some _ e) (Nat.ne_of_lt F.ns.lt) (next_is_new F) (fun p hp => Nat.ne_of_lt (Heap.lt_size (N p hp).1)) trivial (R _ ⟨_, rfl⟩) ?_
  · rw [List.mem_singleton.mp hb]
    show s₁.heap.objs.size < (s₁.heap.push _).objs.size
    rw [Heap.size_push]; exact Nat.lt_succ_self _
  · intro D C h' tk m' ys news' F' N' o1 hn hC₀ hD₀ hCL hDL hCD offC fin
    show wpAny _ A (assign (.Name y py) env (.ref D)) _ _ _
    refine wpAny_assign_Name (wpAny_storeName_local hy F'.ns (fun h₂ hn₂ hs₂ => ?_) hp)
    have hL₀ : h₀.get? env.locals = none := Heap.get?_none_of_le F'.above
    have F₂ : Fr h₀ env.locals h₂ (fun z => if z = y then some (.ref D) else m z) := ⟨hn₂, fun b o e => hs₂.extBut b o (fun q => by rw [q, hL₀] at e; cases e) (F'.keep b o e), F'.above⟩
    refine ⟨m', hn.sameBut hs₂ hCL, fun h'' hs'' => fin D h'' _ (F₂.change hs'' hCL hC₀) (fun p hp => ?_) o1⟩
    have z : h₂.get? p.1 = some p.2 := hs₂.extBut _ _ (N' p hp).2.1 (N' p hp).1
    refine ⟨hs''.extBut _ _ ?_ z, (N' p hp).2⟩
    rcases List.mem_cons.mp hp with rfl | hp
    · exact Ne.symm hCD
    · exact offC p hp
end
end
end
section
set_option maxRecDepth 100000
section
open PySem PySem.W PySem.Calls PyProof.Rows PyProof.Rows.LCg
/-- the end of a turn that makes a tuple of ints -/
noncomputable def TupEnd (h₀ : Heap) (L : Addr) (m : Str → Option Value) (s₁ : Shared) (I C D : Addr) (own : List (Addr × Obj)) (zs : List Int) (y : Value) (s₂ : Shared) : Prop :=
  ∃ h' tk p ws, s₂ = { s₁ with heap := h', toks := tk } ∧ y = .ref p ∧ Fr h₀ L h' m ∧ News h₀ L h' ((p, tup ws) :: own) ∧ (@LT.lt Nat _ I p) ∧ (@LT.lt Nat _ C p) ∧ (@LT.lt Nat _ D p) ∧ (@LT.lt Nat _ 77 p) ∧ IntsAre ws zs
theorem TupEnd.intro {h₀ : Heap} {L I C D : Addr} {m : Str → Option Value} {s₁ : Shared} {own all : List (Addr × Obj)} {zs zs' : List Int} {h' : Heap} {tk : Nat} {p : Addr} {ws : List Value}
    (F : Fr h₀ L h' m) (N : News h₀ L h' all) (hp : (p, tup ws) ∈ all) (sub : ∀ q ∈ own, q ∈ all) (l1 : @LT.lt Nat _ I p) (l2 : @LT.lt Nat _ C p) (l3 : @LT.lt Nat _ D p) (l4 : @LT.lt Nat _ 77 p) (hi : IntsAre ws zs') (e : zs' = zs) :
    TupEnd h₀ L m s₁ I C D own zs (.ref p) { s₁ with heap := h', toks := tk } := by
  subst e
  refine ⟨h', tk, p, ws, rfl, rfl, F, fun q hq => ?_, l1, l2, l3, l4, hi⟩
  rcases List.mem_cons.mp hq with rfl | hq
  · exact N _ hp
  · exact N _ (sub _ hq)
noncomputable def TlOk (n : Nat) (ns : List Int) (tl : List (Addr × Obj)) : Prop := ∀ q ∈ tl, @LT.lt Nat _ 77 q.1 ∧ ∃ i, i < n ∧ ∃ ws, q.2 = tup ws ∧ IntsAre ws ((ns.drop (3 * i)).take 3)
/-- the end of a turn that asks one colour -/
noncomputable def ColEnd (h₀ : Heap) (L : Addr) (c0 : Addr) (s₁ : Shared) (y : Value) (s₂ : Shared) : Prop :=
  ∃ h' tk ps c oc, s₂ = { s₁ with heap := h', toks := tk } ∧ y = .bool true ∧ Keep77 s₁.heap h' ∧ News h₀ L h' [(77, tabObj ps), (c, oc)] ∧ TabOk lamPos lamQual ps c oc ∧ (c = c0 ∨ @LE.le Nat _ s₁.heap.objs.size c)
noncomputable def Colr (top : Int) (o : Obj) : Prop := ∃ r g b tr tg tb, o = tup [.int r tr, .int g tg, .int b tb] ∧ 0 ≤ r ∧ r ≤ top ∧ 0 ≤ g ∧ g ≤ top ∧ 0 ≤ b ∧ b ≤ top
theorem bools_snoc {us : List Value} {bs : List Bool} (h : LSm.BoolsAre us bs) : LSm.BoolsAre (us ++ [.bool true]) (bs ++ [true]) := by
  induction h with
  | nil => exact .cons _ .nil
  | cons b _ ih => exact .cons _ ih
section
variable {prog : Program} {w : World} {A : Around} {h₀ : Heap} {L : Addr} {m : Str → Option Value} {env : Env} {elt : Expr} {x : Str} {scope : Scope} {cl : List (Str × Addr)} {s : Shared} {Fin : List Value → List (Addr × Obj) → Prop}
theorem drawn_rest {n : Nat} {ns : List Int} {base : List (Addr × Obj)} {vs : List Value} (_hP : IntsAre vs ns)
    (turn : ∀ (i : Nat) (t : Tok) (I : Addr) (oI : Obj) (C : Addr) (oC : Obj) (D : Addr) (m₂ : Str → Option Value) (ys : List Value) (h : Heap) (tk : Nat) (E' : Value → Shared → Prop) (tl : List (Addr × Obj)), i < n → NsObj oC m₂ → m₂ x = some (.int (0 + (i : Int) * 3) t) → Fr h₀ L h m →
      News h₀ L h ((I, oI) :: (C, oC) :: (D, lst ys) :: (base ++ tl)) → Off3 I C D (base ++ tl) → ((@Ne Nat I C) ∧ (@Ne Nat I D) ∧ (@Ne Nat C D)) →
      wpAny (model prog w) A (eval elt (compEnvC scope cl C env)) (TupEnd h₀ L m { s with heap := h, toks := tk } I C D ((I, oI) :: (C, oC) :: (D, lst ys) :: (base ++ tl)) ((ns.drop (3 * i)).take 3)) E' { s with heap := h, toks := tk })
    (fin : ∀ tl : List (Addr × Obj), TlOk n ns tl → tl.length = n → Fin (tl.map fun q => .ref q.1) (base ++ tl)) :
    CompRest prog w A h₀ L m env elt x scope cl s (fun _ => True) (fun i v => ∃ t, v = .int (0 + (i : Int) * 3) t) Fin n 0 [] base := by
  have key : ∀ (j i : Nat) (tl : List (Addr × Obj)), i + j = n → tl.length = i → (∀ q ∈ tl, @LT.lt Nat _ 77 q.1 ∧ ∃ i, i < n ∧ ∃ ws, q.2 = tup ws ∧ IntsAre ws ((ns.drop (3 * i)).take 3)) →
      CompRest prog w A h₀ L m env elt x scope cl s (fun _ => True) (fun i v => ∃ t, v = .int (0 + (i : Int) * 3) t) Fin j i (tl.map fun q => .ref q.1) (base ++ tl) := by
    intro j
    induction j with
    | zero =>
      intro i tl hi hl hg
      exact CompRest.zero (fin tl hg (by omega))
    | succ j ih =>
      intro i tl hi hl hg
      refine CompRest.succ ?_
      intro v I oI C oC D m₂ h tk E' hv hC hx F N off ne
      obtain ⟨t, rfl⟩ := hv
      refine wpAny_mono (turn i t I oI C oC D m₂ _ h tk E' tl (by omega) hC hx F N off ne) (fun y s₂ hq => ?_) fun _ _ e => e
      obtain ⟨h', tk', p, ws, e, rfl, F', N', lI, lC, lD, l7, hi'⟩ := hq
      have o3 := off.mem
      refine ⟨h', tk', base ++ (tl ++ [(p, tup ws)]), e, F', fun q hq => N' q ?_, Off3.of fun q hq => ?_, True.intro, ?_⟩
      · simp only [List.mem_cons, List.mem_append, List.not_mem_nil, or_false] at hq ⊢
        rcases hq with e | e | e | e | e | e
        · exact Or.inr (Or.inl e)
        · exact Or.inr (Or.inr (Or.inl e))
        · exact Or.inr (Or.inr (Or.inr (Or.inl e)))
        · exact Or.inr (Or.inr (Or.inr (Or.inr (Or.inl e))))
        · exact Or.inr (Or.inr (Or.inr (Or.inr (Or.inr e))))
        · exact Or.inl e
      · rw [← List.append_assoc] at hq
        rcases List.mem_append.mp hq with hq | hq
        · exact o3 q hq
        · rw [List.mem_singleton.mp hq]
          exact ⟨Nat.ne_of_gt lI, Nat.ne_of_gt lC, Nat.ne_of_gt lD⟩
      · have := ih (i + 1) (tl ++ [(p, tup ws)]) (by omega) (by simp [hl]) (fun q hq => by
          rcases List.mem_append.mp hq with hq | hq
          · exact hg q hq
          · rw [List.mem_singleton.mp hq]; exact ⟨l7, i, by omega, ws, rfl, hi'⟩)
        simpa using this
  have := key n 0 [] (by omega) rfl (fun _ h => nomatch h)
  simpa using this
theorem colours_rest {top : Int} {tt : Tok} {y : Str} {cT ax c0 : Addr} {oT oc0 : Obj} {its : Array Value} {k : Nat} {ps : Array Value} {news : List (Addr × Obj)}
    (hcl : cl.lookup y = some cT) (hT : (cT, oT) ∈ news) (hsrc : (ax, ({ cls := .type "list", data := .seq its k } : Obj)) ∈ news) (h77 : (77, tabObj ps) ∈ news) (hc0 : (c0, oc0) ∈ news) (tab : TabOk lamPos lamQual ps c0 oc0)
    (hT7 : @Ne Nat cT 77) (ha7 : @Ne Nat ax 77)
    (hits : ∀ v ∈ its.toList, ∃ p op, v = .ref p ∧ (p, op) ∈ news ∧ @LT.lt Nat _ 77 p ∧ Colr top op)
    (turn : ∀ (p : Addr) (r g b : Int) (tr tg tb : Tok) (I : Addr) (oI : Obj) (C : Addr) (oC : Obj) (D : Addr) (m₂ : Str → Option Value) (ys : List Value) (h : Heap) (tk : Nat) (E' : Value → Shared → Prop) (ps : Array Value) (c : Addr) (oc : Obj), 0 ≤ r → r ≤ top → 0 ≤ g → g ≤ top → 0 ≤ b → b ≤ top → @LT.lt Nat _ 77 p → TabOk lamPos lamQual ps c oc → NsObj oC m₂ → m₂ x = some (.ref p) → Fr h₀ L h m →
      News h₀ L h [(I, oI), (C, oC), (D, lst ys), (cT, oT), (p, tup [.int r tr, .int g tg, .int b tb]), (77, tabObj ps), (c, oc)] →
      wpAny (model prog w) A (eval elt (compEnvC scope cl C env)) (ColEnd h₀ L c { s with heap := h, toks := tk }) E' { s with heap := h, toks := tk })
    (fin : ∀ (ys : List Value) (news : List (Addr × Obj)) (ps : Array Value), LSm.BoolsAre ys (ys.map fun _ => true) → (77, tabObj ps) ∈ news → Fin ys news) :
    CompRest prog w A h₀ L m env elt x scope cl s (SrcAt h₀ ax its) (fun i v => its[i]? = some v) Fin its.size 0 [] news := by
  have key : ∀ (j i : Nat) (ys : List Value) (ps : Array Value) (c : Addr) (oc : Obj) (nw : List (Addr × Obj)), i + j = its.size → LSm.BoolsAre ys (ys.map fun _ => true) → TabOk lamPos lamQual ps c oc → (77, tabObj ps) ∈ nw → (c, oc) ∈ nw → (cT, oT) ∈ nw → (ax, ({ cls := .type "list", data := .seq its k } : Obj)) ∈ nw →
      (∀ v ∈ its.toList, ∃ p op, v = .ref p ∧ (p, op) ∈ nw ∧ @LT.lt Nat _ 77 p ∧ Colr top op) →
      CompRest prog w A h₀ L m env elt x scope cl s (SrcAt h₀ ax its) (fun i v => its[i]? = some v) Fin j i ys nw := by
    intro j
    induction j with
    | zero =>
      intro i ys ps c oc nw hi hb _ k77 _ _ _ _
      exact CompRest.zero (fin ys nw ps hb k77)
    | succ j ih =>
      intro i ys ps c oc nw hi hb tb k77 kc kT ks kits
      refine CompRest.succ ?_
      intro v I oI C oC D m₂ h tk E' hv hC hx F N off ne
      obtain ⟨p, op, rfl, hp, lp, r, g, b, tr, tg, tb', rfl, r0, r1, g0, g1, b0, b1⟩ := kits v (by
        have := List.mem_of_getElem? (by simpa using hv : its.toList[i]? = some v); exact this)
      have o3 := off.mem
      refine wpAny_mono (turn p r g b tr tg tb' I oI C oC D m₂ ys h tk E' ps c oc r0 r1 g0 g1 b0 b1 lp tb hC hx F (fun q hq => N q ?_)) (fun y s₂ hq => ?_) fun _ _ e => e
      · simp only [List.mem_cons, List.not_mem_nil, or_false] at hq ⊢
        rcases hq with e | e | e | e | e | e | e
        · exact Or.inl e
        · exact Or.inr (Or.inl e)
        · exact Or.inr (Or.inr (Or.inl e))
        · subst e; exact Or.inr (Or.inr (Or.inr kT))
        · subst e; exact Or.inr (Or.inr (Or.inr hp))
        · subst e; exact Or.inr (Or.inr (Or.inr k77))
        · subst e; exact Or.inr (Or.inr (Or.inr kc))
      · obtain ⟨h', tk', ps1, c1, oc1, e, rfl, kp, N1, tb1, hn⟩ := hq
        have kp : Keep77 h h' := kp
        have F' : Fr h₀ L h' m := fr77 F N (List.mem_cons_of_mem _ (List.mem_cons_of_mem _ (List.mem_cons_of_mem _ k77))) kp
        have nI : I ≠ 77 := fun e => (o3 _ k77).1 e.symm
        have nC : C ≠ 77 := fun e => (o3 _ k77).2.1 e.symm
        have nD : D ≠ 77 := fun e => (o3 _ k77).2.2 e.symm
        let nw' : List (Addr × Obj) := (77, tabObj ps1) :: (c1, oc1) :: nw.filter fun q => decide (@Ne Nat q.1 77)
        have mem' : ∀ q ∈ nw, @Ne Nat q.1 77 → q ∈ nw' := fun q hq h7 => List.mem_cons_of_mem _ (List.mem_cons_of_mem _ (List.mem_filter.mpr ⟨hq, by simpa using h7⟩))
        have hsz : ∀ q ∈ (I, oI) :: (C, oC) :: (D, lst ys) :: nw, q.1 < h.objs.size := fun q hq => Heap.lt_size (N q hq).1
        have offc : c1 ≠ I ∧ c1 ≠ C ∧ c1 ≠ D := by
          rcases hn with e | e
          · rw [e]; exact o3 _ kc
          · refine ⟨Ne.symm (Nat.ne_of_lt (Nat.lt_of_lt_of_le (hsz (I, oI) (by simp)) e)), Ne.symm (Nat.ne_of_lt (Nat.lt_of_lt_of_le (hsz (C, oC) (by simp)) e)), Ne.symm (Nat.ne_of_lt (Nat.lt_of_lt_of_le (hsz (D, lst ys) (by simp)) e))⟩
        refine ⟨h', tk', nw', e, F', fun q hq => ?_, Off3.of fun q hq => ?_, Or.inr ⟨_, mem' _ ks ha7, rfl, _, rfl⟩, ?_⟩
        · have old : ∀ q ∈ (I, oI) :: (C, oC) :: (D, lst ys) :: nw, q.1 ≠ 77 → h'.get? q.1 = some q.2 ∧ q.1 ≠ L ∧ h₀.get? q.1 = none := fun q hq h7 => ⟨kp _ _ h7 (N q hq).1, (N q hq).2⟩
          rcases List.mem_cons.mp hq with rfl | hq
          · exact old _ (by simp) nI
          · rcases List.mem_cons.mp hq with rfl | hq
            · exact old _ (by simp) nC
            · rcases List.mem_cons.mp hq with rfl | hq
              · exact old _ (by simp) nD
              · rcases List.mem_cons.mp hq with rfl | hq
                · exact N1 _ (by simp)
                · rcases List.mem_cons.mp hq with rfl | hq
                  · exact N1 _ (by simp)
                  · obtain ⟨hq, h7⟩ := List.mem_filter.mp hq
                    exact old q (List.mem_cons_of_mem _ (List.mem_cons_of_mem _ (List.mem_cons_of_mem _ hq))) (by simpa using h7)
        · rcases List.mem_cons.mp hq with rfl | hq
          · exact o3 (77, tabObj ps) k77
          · rcases List.mem_cons.mp hq with rfl | hq
            · exact offc
            · exact o3 q (List.mem_filter.mp hq).1
        · refine ih (i + 1) _ ps1 c1 oc1 nw' (by omega) ?_ tb1 (List.mem_cons_self ..) (List.mem_cons_of_mem _ (List.mem_cons_self ..)) (mem' _ kT hT7) (mem' _ ks ha7) fun v hv => ?_
          · have := bools_snoc hb
            simpa using this
          · obtain ⟨p, op, e, hp, lp, G⟩ := kits v hv
            exact ⟨p, op, e, mem' _ hp (Ne.symm (Nat.ne_of_lt lp)), lp, G⟩
  exact key its.size 0 [] ps c0 oc0 news (by omega) .nil tab h77 hc0 hT hsrc hits
end
theorem parts_ok {l : List Int} {T : Int} (hT : 0 < T) : ∀ x ∈ l.map (fun k => k.fmod (T + 1)) ++ [0, 0], 0 ≤ x ∧ x ≤ T := by
  intro x hx
  rcases List.mem_append.mp hx with hx | hx
  · obtain ⟨k, _, rfl⟩ := List.mem_map.mp hx
    have h1 := Int.fmod_nonneg_of_pos k (show 0 < T + 1 by omega)
    have h2 := Int.fmod_lt_of_pos k (show 0 < T + 1 by omega)
    omega
  · simp at hx; omega
theorem colr_of {P : List Int} {T : Int} (hP : ∀ x ∈ P, 0 ≤ x ∧ x ≤ T) {i : Nat} (hi : 3 * i + 3 ≤ P.length) {ws : List Value} (h : IntsAre ws ((P.drop (3 * i)).take 3)) : Colr T (tup ws) := by
  obtain ⟨a, b, c, r, e⟩ : ∃ a b c r, P.drop (3 * i) = a :: b :: c :: r := by
    have hl : 3 ≤ (P.drop (3 * i)).length := by rw [List.length_drop]; omega
    revert hl
    generalize P.drop (3 * i) = l
    intro hl
    match l, hl with
    | a :: b :: c :: r, _ => exact ⟨a, b, c, r, rfl⟩
  have mem : ∀ x ∈ a :: b :: c :: r, 0 ≤ x ∧ x ≤ T := fun x hx => hP x (List.mem_of_mem_drop (e ▸ hx))
  rw [e] at h
  have ma := mem a (by simp)
  have mb := mem b (by simp)
  have mc := mem c (by simp)
  cases h with
  | cons _ ta h => cases h with
    | cons _ tb h => cases h with
      | cons _ tc h => cases h with
        | nil => exact ⟨a, b, c, ta, tb, tc, rfl, ma.1, ma.2, mb.1, mb.2, mc.1, mc.2⟩
theorem range3_size {K : Nat} : Builtin.Range.rangeSize 0 (((K + (1 + 1) : Nat) : Int) - 2) 3 = (((K + 2) / 3 : Nat) : Int) := by
  unfold Builtin.Range.rangeSize
  rw [if_pos (by decide)]
  split <;> omega
theorem range3_small {K : Nat} (hK : K ≤ 1000) : Builtin.Range.small 0 (((K + (1 + 1) : Nat) : Int) - 2) 3 = true := by
  have hs := range3_size (K := K)
  unfold Builtin.Range.small
  rw [hs]
  simp only [Builtin.Range.rangeFitsLong, Bool.and_eq_true, Bool.or_eq_true, decide_eq_true_eq, beq_iff_eq, show (3 : Int) > 0 by decide, if_true]
  omega
theorem nz256 (x : Int) : 1 + x.fmod 256 + 1 ≠ 0 := by
  have := Int.fmod_nonneg_of_pos x (show (0 : Int) < 256 by decide); omega
theorem pos256 (x : Int) : 0 < 1 + x.fmod 256 := by
  have := Int.fmod_nonneg_of_pos x (show (0 : Int) < 256 by decide); omega
theorem le256 (x : Int) : 1 + x.fmod 256 ≤ 256 := by
  have := Int.fmod_lt_of_pos x (show (0 : Int) < 256 by decide); omega
theorem slice3 {P : List Int} {i K : Nat} (hK : P.length = K + 2) (hi : i < (K + 2) / 3) :
    List.take (min (0 + (i : Int) * 3 + 3).toNat P.length - (0 + (i : Int) * 3).toNat) (List.drop (0 + (i : Int) * 3).toNat P) = (P.drop (3 * i)).take 3 := by
  have e1 : (0 + (i : Int) * 3).toNat = 3 * i := by omega
  have e2 : min (0 + (i : Int) * 3 + 3).toNat P.length - 3 * i = 3 := by omega
  rw [e1, e2]
theorem hits_of {a b c : Addr} {oa ob oc : Obj} {tl news : List (Addr × Obj)} {T : Int} (ha : (a, oa) ∈ news) (hb : (b, ob) ∈ news) (hc : (c, oc) ∈ news) (htl : ∀ q ∈ tl, q ∈ news)
    (l1 : @LT.lt Nat _ 77 a) (l2 : @LT.lt Nat _ 77 b) (l3 : @LT.lt Nat _ 77 c) (g1 : Colr T oa) (g2 : Colr T ob) (g3 : Colr T oc) (gt : ∀ q ∈ tl, @LT.lt Nat _ 77 q.1 ∧ Colr T q.2) :
    ∀ v ∈ ([Value.ref a, Value.ref b, Value.ref c] ++ tl.map fun q => Value.ref q.1).toArray.toList, ∃ p op, v = .ref p ∧ (p, op) ∈ news ∧ @LT.lt Nat _ 77 p ∧ Colr T op := by
  intro v hv
  simp only [List.mem_append, List.mem_cons, List.not_mem_nil, or_false, List.mem_map] at hv
  rcases hv with (rfl | rfl | rfl) | ⟨q, hq, rfl⟩
  · exact ⟨a, oa, rfl, ha, l1, g1⟩
  · exact ⟨b, ob, rfl, hb, l2, g2⟩
  · exact ⟨c, oc, rfl, hc, l3, g3⟩
  · exact ⟨q.1, q.2, rfl, htl q hq, gt q hq⟩
theorem good_tl {tl : List (Addr × Obj)} {l : List Int} {T : Int} (hT : 0 < T) {n : Nat} (hn : 3 * n ≤ l.length + 2)
    (h : TlOk n (l.map (fun k : Int => k.fmod (T + 1)) ++ [0, 0]) tl) : ∀ q ∈ tl, @LT.lt Nat _ 77 q.1 ∧ Colr T q.2 := by
  intro q hq
  obtain ⟨h7, i, hi, ws, e, hw⟩ := h q hq
  refine ⟨h7, ?_⟩
  rw [e]
  exact colr_of (P := l.map (fun k : Int => k.fmod (T + 1)) ++ [0, 0]) (parts_ok hT) (i := i) (by simp only [List.length_append, List.length_map, List.length_cons, List.length_nil]; omega) hw
theorem colr3 {a b c T : Int} {t u v : Tok} (h1 : 0 ≤ a ∧ a ≤ T) (h2 : 0 ≤ b ∧ b ≤ T) (h3 : 0 ≤ c ∧ c ≤ T) : Colr T { cls := .type "tuple", data := .seq #[.int a t, .int b u, .int c v] } := ⟨a, b, c, t, u, v, rfl, h1.1, h1.2, h2.1, h2.2, h3.1, h3.2⟩
theorem half_ok {T : Int} (hT : 0 < T) : 0 ≤ T.fdiv 2 ∧ T.fdiv 2 ≤ T := by
  rw [Int.fdiv_eq_ediv_of_nonneg T (by decide)]
  omega
theorem app_e (l1 l2 : List Value) : l1.toArray.toList ++ l2.toArray.toList = l1 ++ l2 := rfl
theorem all_true (ys : List Value) : (ys.map fun _ => true).all id = true := by simp
theorem ColEnd.intro {h₀ : Heap} {L c0 c : Addr} {s₁ : Shared} {h' : Heap} {tk : Nat} {ps : Array Value} {oc : Obj} {p : Addr} {op : Obj}
    (kp : Keep77 s₁.heap h') (N : News h₀ L h' [(p, op), (77, tabObj ps), (c, oc)]) (tb : TabOk lamPos lamQual ps c oc) (hn : c = c0 ∨ @LE.le Nat _ s₁.heap.objs.size c) : ColEnd h₀ L c0 s₁ (.bool true) { s₁ with heap := h', toks := tk } :=
  ⟨h', tk, ps, c, oc, rfl, rfl, kp, fun q hq => N q (List.mem_cons_of_mem _ hq), tb, hn⟩
theorem hits_law {a b c : Addr} {t1 t2 t3 t4 t5 t6 t7 t8 t9 : Tok} {tl news : List (Addr × Obj)} {T : Int} {l : List Int} {n : Nat} (hT : 0 < T)
    (ha : (a, ({ cls := .type "tuple", data := .seq #[.int T t1, .int T t2, .int T t3] } : Obj)) ∈ news) (hb : (b, ({ cls := .type "tuple", data := .seq #[.int 0 t4, .int (T.fdiv 2) t5, .int T t6] } : Obj)) ∈ news)
    (hc : (c, ({ cls := .type "tuple", data := .seq #[.int T t7, .int 0 t8, .int T t9] } : Obj)) ∈ news) (htl : ∀ q ∈ tl, q ∈ news)
    (l1 : @LT.lt Nat _ 77 a) (l2 : @LT.lt Nat _ 77 b) (l3 : @LT.lt Nat _ 77 c) (hn : 3 * n ≤ l.length + 2) (ht : TlOk n (l.map (fun k : Int => k.fmod (T + 1)) ++ [0, 0]) tl) :
    ∀ v ∈ ([Value.ref a, Value.ref b, Value.ref c] ++ tl.map fun q => Value.ref q.1).toArray.toList, ∃ p op, v = .ref p ∧ (p, op) ∈ news ∧ @LT.lt Nat _ 77 p ∧ Colr T op := by
  have h1 : 0 ≤ T ∧ T ≤ T := ⟨by omega, Int.le_refl _⟩
  have h0 : 0 ≤ (0 : Int) ∧ 0 ≤ T := ⟨Int.le_refl _, by omega⟩
  exact hits_of ha hb hc htl l1 l2 l3 (colr3 h1 h1 h1) (colr3 h0 (half_ok hT) h1) (colr3 h1 h0 h1) (good_tl hT hn ht)
theorem law_len {K : Nat} {tl : List (Addr × Obj)} (hl : tl.length = (K + 2) / 3) (hK : K ≤ 1000) : ([Value.none, .none, .none] ++ tl.map fun q => Value.ref q.1).toArray.size ≤ 1000 := by
  simp only [List.size_toArray, List.length_append, List.length_map, List.length_cons, List.length_nil]; omega
theorem m25 (n : Nat) : min 25 n - 1 + (0 + 1 + 1) ≤ 26 := by omega
theorem m25a (n : Nat) : min 25 n - 1 + (0 + 1 + 1) ≤ 16777216 := Nat.le_trans (m25 n) (by decide)
theorem m25b (n : Nat) : min 25 n - 1 ≤ 16777216 := Nat.le_trans (Nat.le_add_right _ _) (m25a n)
theorem m25c (n : Nat) : min 25 n - 1 ≤ 1000 := Nat.le_trans (Nat.le_add_right _ _) (Nat.le_trans (m25 n) (by decide))
theorem m25d (n : Nat) : (min 25 n - 1 + 2) / 3 ≤ 16777216 := Nat.le_trans (Nat.div_le_self _ _) (m25a n)
theorem m25e (n X Y : Nat) : min (X - Y) (min 25 n - 1 + (0 + 1 + 1) - Y) ≤ 16384 := Nat.le_trans (Nat.min_le_right _ _) (Nat.le_trans (Nat.sub_le _ _) (Nat.le_trans (m25 n) (by decide)))
theorem m25e' (n X Y : Nat) : min X (min 25 n - 1 + (0 + 1 + 1)) - Y ≤ 16384 := Nat.le_trans (Nat.sub_le _ _) (Nat.le_trans (Nat.min_le_right _ _) (Nat.le_trans (m25 n) (by decide)))
theorem m25f {t n : Nat} (h : t = (min 25 n - 1 + 2) / 3) : 0 + 1 + 1 + 1 + t ≤ 16777216 := by
  subst h
  have h2 := Nat.le_trans (Nat.div_le_self (min 25 n - 1 + 2) 3) (m25 n)
  exact Nat.le_trans (Nat.add_le_add_left h2 _) (by decide)
theorem third {K : Nat} : 3 * ((K + 2) / 3) ≤ K + 2 := by omega
theorem colour_w {w : World} {mean : ExcName → Option Value} {mg mb : Str → Option Value} {p : Addr} {r g b top : Int} {tr tg tb tt : Tok} {dp un : Nat} {gd : Option (List Code)} {cn : Str} {cs : Scope} {a : Addr} {ccd : Value} {cl : List (Str × Addr)} {outer : List Env} {A₀ : Around} {base h₀ : Heap} {L : Addr} {m : Str → Option Value} {s : Shared} {Q E : Value → Shared → Prop}
    {news : List (Addr × Obj)} {ps : Array Value} {c0 : Addr} {oc : Obj}
    (F' : Fr h₀ L s.heap m) (N' : News h₀ L s.heap news) (m1 : (p, tup [.int r tr, .int g tg, .int b tb]) ∈ news) (m2 : (77, tabObj ps) ∈ news) (tab : TabOk lamPos lamQual ps c0 oc) (m3 : (c0, oc) ∈ news)
    (hr0 : 0 ≤ r) (hr1 : r ≤ top) (hg0 : 0 ≤ g) (hg1 : g ≤ top) (hb0 : 0 ≤ b) (hb1 : b ≤ top) (ht0 : 0 < top) (ht1 : top ≤ 256)
    (B' : Below A₀ base outer h₀) (X' : (hd01.heap_39 w.params).In h₀) (T' : Top topProg loose1 mean mg mb h₀) (hk : cs.kind = .function) (hd : dp + 4 < recursionLimit) (hu : un + 8 * 4 < cLine) (p77 : @LT.lt Nat _ 77 p) (C77 : CodeHd base 81 77)
    (hret : ∀ (h' : Heap) (tk' : Nat) (ps1 : Array Value) (c1 : Addr) (oc1 : Obj), Keep77 s.heap h' → News h₀ L h' [(p, tup [.int r tr, .int g tg, .int b tb]), (77, tabObj ps1), (c1, oc1)] → TabOk lamPos lamQual ps1 c1 oc1 → (c1 = c0 ∨ @LE.le Nat _ s.heap.objs.size c1) → Q (.bool true) { s with heap := h', toks := tk' }) :
    wpAny (model Challenge.rw_mj0002_01.row.prog w) (ktrTop dp un gd cn cs L a ccd cl outer) (call (.ref 87) [.ref p, .int top tt]) Q E s :=
  colour_fin p r g b top tr tg tb tt hr0 hr1 hg0 hg1 hb0 hb1 ht0 ht1 _ _ _ _ _ _ _ _ _ _ _ _ _ _ _ _ _ ps c0 oc B' F' X' (fun e he => by
    simp only [List.mem_cons, List.not_mem_nil, or_false] at he
    rcases he with rfl | rfl | rfl
    · exact N' _ m1
    · exact N' _ m2
    · exact N' _ m3) T' hk hd hu p77 C77 tab fun _ h' tk' ps1 c1 oc1 kp N1 tb1 hn => hret h' tk' ps1 c1 oc1 kp N1 tb1 hn
theorem good_true {c : ClaimW} {cl : Str → Option Addr} {mean : ExcName → Option Value} {args : List WData} {s₁ s' : Shared} (hnr : ∀ cls, c.raises args cls = false) (hp : c.post args (.bool true) args = true)
    (k : ∀ b o, s₁.heap.get? b = some o → s'.heap.get? b = some o) (ho : s'.os = s₁.os) (hg : s'.gens = #[]) : GoodW c cl mean args s₁ (Except.ok (Flow.ret (.bool true))) s' :=
  ⟨Or.inl ⟨_, .bool true, [], rfl, hnr, .bool true, hp, fun _ => ⟨List.nodup_nil, fun _ h => nomatch h⟩⟩, k, ho, hg⟩
theorem post1 (args : List WData) : Challenge.rw_mj0002_01.row.claim.post args (.bool true) args = true := by
  refine postW_of (X := true) rfl ?_ rfl
  show WTm.value [] (.eq .res (.lit (.bool true))) _ = _
  simp [WTm.value]
  first | decide | rfl | simp [same]
theorem law_end {cl : Str → Option Addr} {mean : ExcName → Option Value} {args : List WData} {s₁ s' : Shared} {L : Addr} {m : Str → Option Value} {news : List (Addr × Obj)} {ps : Array Value} {b : Bool} (hb : b = true)
    (F : Fr s₁.heap L s'.heap m) (N : News s₁.heap L s'.heap news) (hm : (77, tabObj ps) ∈ news) (ho : s'.os = s₁.os) (hg : s'.gens = #[]) :
    GoodW Challenge.rw_mj0002_01.row.claim cl mean args s₁ (Except.ok (Flow.ret (.bool b))) s' ∧ GrownAll [(81, 77)] s'.heap := by
  subst hb
  exact ⟨good_true (fun _ => rfl) (post1 _) F.keep ho hg, GrownAt.of N hm, trivial⟩
end
end
section
open PySem PySem.W PyProof.Rows
set_option maxRecDepth 100000
section
set_option maxHeartbeats 8000000 in
theorem law_holds : PySem.Challenge.rw_mj0002_01.Holds := hd01 (by
  k_with_none
  k_with "k_ne" => (refine neN ?_; (try dsimp only); first | (with_reducible assumption) | (with_reducible exact Ne.symm (by assumption)) | (with_reducible exact Nat.ne_of_lt (by assumption)) | (with_reducible exact Nat.ne_of_gt (by assumption)) | (with_reducible exact Nat.ne_of_lt (ltAll (by assumption) (by k_dflt k_mem))) | (with_reducible exact Nat.ne_of_gt (ltAll (by assumption) (by k_dflt k_mem))) | (with_reducible exact Nat.ne_of_lt (ltAllS (by assumption) (by k_dflt k_mem))) | (with_reducible exact Nat.ne_of_gt (ltAllS (by assumption) (by k_dflt k_mem))) | (with_reducible exact Nat.ne_of_gt (ltAllSS (by assumption) (by k_dflt k_mem))) | (with_reducible exact Nat.ne_of_lt (ltAllSS (by assumption) (by k_dflt k_mem))) | (with_reducible exact Nat.ne_of_gt (ltAllSSS (by assumption) (by k_dflt k_mem))) | (with_reducible exact Nat.ne_of_lt (ltAllSSS (by assumption) (by k_dflt k_mem))) | (with_reducible exact Nat.ne_of_lt (ltVia (by assumption) (by assumption) (by k_dflt k_mem))) | (with_reducible exact Nat.ne_of_gt (ltVia (by assumption) (by assumption) (by k_dflt k_mem))) | (with_reducible exact off1 (by assumption) (by k_dflt k_mem)) | (with_reducible exact Ne.symm (off1 (by assumption) (by k_dflt k_mem))) | (with_reducible exact offI (by assumption) (by k_dflt k_mem)) | (with_reducible exact offC (by assumption) (by k_dflt k_mem)) | (with_reducible exact offD (by assumption) (by k_dflt k_mem)) | (with_reducible exact Ne.symm (offI (by assumption) (by k_dflt k_mem))) | (with_reducible exact Ne.symm (offC (by assumption) (by k_dflt k_mem))) | (with_reducible exact Ne.symm (offD (by assumption) (by k_dflt k_mem))))
  k_with "k_lt" => skip
  k_with "k_all" => (with_reducible exact neAll (by assumption))
  k_with "binaryOp Mod int int" => (with_reducible refine mod_int' (by first | decide | exact nz256 _) ?_)
  k_with "exec Assign cons ListComp" => (k_here; lcf_look; k_dflt (refine assign_comp_step (F₀ := by k_asm) (by rfl) (by with_unfolding_all rfl) (by with_unfolding_all rfl) (by decide) (by rfl) (by decide) (by rfl) (by rfl) (by rfl) ?_))
  k_with "StepSrc" => (k_here; (with_reducible rename (IntsAre _ (_ ++ [0, 0])) => hp9); k_dflt (refine stepSrc (by rfl) (by k_asm) (by k_asm) (by assumption) (range3_small (by simp only [List.length_map, List.length_drop, List.length_take]; first | exact m25a _ | exact m25b _ | exact m25c _ | exact m25d _ | exact m25e _ _ _ | exact m25e' _ _ _ | exact m25f (by assumption) | omega)) range3_size (by rw [PySem.sizeLine_eq]; simp only [List.length_map, List.length_drop, List.length_take]; first | exact m25a _ | exact m25b _ | exact m25c _ | exact m25d _ | exact m25e _ _ _ | exact m25e' _ _ _ | exact m25f (by assumption) | omega) ?_); intro g'; (refine' drawn_rest hp9 (fun i' t' I' oI' C' oC' D' m' ys' h' tk' E' tl' hi' hC' hx' F' N' off' ne' => ?_) (fun tl' htl' ltl' => ?_)); (try simp only [List.cons_append, List.nil_append] at N' off'))
  k_with "call type:tuple" => (k_here; (with_reducible show wpAny _ _ (call (Value.type _) [Value.ref _]) _ _ _); (with_reducible rename (IntsAre _ (List.take _ _)) => hi9); k_dflt (refine' kde_tupleOf (zs := _) (by k_asm) (by k_asm) (by exact News.isList (by k_asm) (by k_mem)) (by have hl9 := IntsAre.length hi9; simp only [List.size_toArray]; rw [hl9]; simp only [List.length_take, List.length_drop, List.length_append, List.length_map, List.length_cons, List.length_nil]; first | exact m25a _ | exact m25b _ | exact m25c _ | exact m25d _ | exact m25e _ _ _ | exact m25e' _ _ _ | exact m25f (by assumption) | omega) List.toList_toArray _; k_whole); intro D' h' F' N' l1; (try simp only [List.cons_append, List.nil_append] at l1))
  k_with "TupEnd" => ((with_reducible rename (_ < (_ + 2) / 3) => hiT); k_dflt (refine TupEnd.intro (by assumption) (by assumption) (List.Mem.head _) (fun q hq => List.Mem.tail _ (List.Mem.tail _ hq)) (by first | (with_reducible assumption) | exact ltAll (by with_reducible assumption) (by k_mem)) (by first | (with_reducible assumption) | exact ltAll (by with_reducible assumption) (by k_mem)) (by first | (with_reducible assumption) | exact ltAll (by with_reducible assumption) (by k_mem)) (by first | (with_reducible assumption) | exact ltAll (by with_reducible assumption) (by k_mem)) (by assumption) (slice3 (by rw [List.length_append]; rfl) hiT)))
  k_with "binaryOp Add ref ref" => (k_here; (with_reducible rename (TlOk _ _ _) => ht9); ((with_reducible rename (List.length _ = (_ + 2) / 3) => hl9); k_dflt (refine' kmk_add_lit (by k_asm) (by k_asm) (by exact News.isList (by k_asm) (by k_mem)) (by exact News.isList (by k_asm) (by k_mem)) (app_e _ _) _ (by rw [PySem.sizeLine_eq]; simp only [List.length_map, List.length_drop, List.length_take] at hl9; simp only [List.length_append, List.length_map, List.length_cons, List.length_nil]; first | exact m25a _ | exact m25b _ | exact m25c _ | exact m25d _ | exact m25e _ _ _ | exact m25e' _ _ _ | exact m25f (by assumption) | omega); k_whole); intro D' h' F' N' l1; (try simp only [List.cons_append, List.nil_append] at l1)))
  k_with "CompSrc" => (k_here; (with_reducible rename (TlOk _ _ _) => ht9); ((with_reducible rename (List.length _ = (_ + 2) / 3) => hl9); (simp only [List.length_map, List.length_drop, List.length_take] at hl9); k_dflt (refine LCg.CompSrc.ledger (by rfl) (by k_asm) (by k_asm) (by k_mem) (by rw [PySem.sizeLine_eq]; simp only [List.size_toArray, List.length_append, List.length_map, List.length_cons, List.length_nil]; first | exact m25a _ | exact m25b _ | exact m25c _ | exact m25d _ | exact m25e _ _ _ | exact m25e' _ _ _ | exact m25f (by assumption) | omega) ?_); intro g'; k_dflt (refine' colours_rest (tt := 0) (y := Str.ofString "top") (by rfl) (by k_mem) (by k_mem) (by k_mem) (by k_mem) ⟨Nat.ne_of_gt (by first | (with_reducible assumption) | exact ltAll (by with_reducible assumption) (by k_mem) | exact ltAllS (by with_reducible assumption) (by k_mem) | exact ltAllSS (by with_reducible assumption) (by k_mem) | exact ltAllSSS (by with_reducible assumption) (by k_mem) | omega), Or.inl rfl⟩ (Nat.ne_of_gt (by first | (with_reducible assumption) | exact ltAll (by with_reducible assumption) (by k_mem) | exact ltAllS (by with_reducible assumption) (by k_mem) | exact ltAllSS (by with_reducible assumption) (by k_mem) | exact ltAllSSS (by with_reducible assumption) (by k_mem) | omega)) (Nat.ne_of_gt (by first | (with_reducible assumption) | exact ltAll (by with_reducible assumption) (by k_mem) | exact ltAllS (by with_reducible assumption) (by k_mem) | exact ltAllSS (by with_reducible assumption) (by k_mem) | exact ltAllSSS (by with_reducible assumption) (by k_mem) | omega)) (hits_law (by first | exact pos256 _ | decide) (by k_mem) (by k_mem) (by k_mem) (by intro q hq; repeat (first | exact hq | refine List.Mem.tail _ ?_)) (by first | (with_reducible assumption) | exact ltAll (by with_reducible assumption) (by k_mem) | exact ltAllS (by with_reducible assumption) (by k_mem) | exact ltAllSS (by with_reducible assumption) (by k_mem) | exact ltAllSSS (by with_reducible assumption) (by k_mem) | omega) (by first | (with_reducible assumption) | exact ltAll (by with_reducible assumption) (by k_mem) | exact ltAllS (by with_reducible assumption) (by k_mem) | exact ltAllSS (by with_reducible assumption) (by k_mem) | exact ltAllSSS (by with_reducible assumption) (by k_mem) | omega) (by first | (with_reducible assumption) | exact ltAll (by with_reducible assumption) (by k_mem) | exact ltAllS (by with_reducible assumption) (by k_mem) | exact ltAllSS (by with_reducible assumption) (by k_mem) | exact ltAllSSS (by with_reducible assumption) (by k_mem) | omega) (by rw [List.length_map]; exact third) ht9) (fun p' r' g' b' tr' tg' tb' I' oI' C' oC' D' m' ys' h' tk' E' ps' c' oc' r0' r1' g0' g1' b0' b1' p7' tk9' hC' hx' F' N' => _) (fun ys' news' ps' hb' hm' => _)); k_whole))
  k_with "eval Call" => (k_here; (with_reducible show wpAny _ _ (eval (Expr.Call (Expr.Name _ _) [Expr.Name _ _, Expr.Name _ _] [] _) (compEnvC _ _ _ _)) _ _ _); k_dflt (refine Call_ ?_))
  k_with "call ref" => (k_here; k_dflt (show wpAny _ _ (call (Value.ref 87) _) _ _ _); (k_dflt (refine' colour_w (by k_asm) (by k_asm) (by k_mem) (by k_mem) (by assumption) (by k_mem) (by assumption) (by assumption) (by assumption) (by assumption) (by assumption) (by assumption) (by first | exact pos256 _ | decide) (by first | exact le256 _ | decide) (by k_asm) (by k_asm) (by k_asm) (by first | exact rfl | assumption) (by decide +kernel) (by decide +kernel) (by assumption) (by assumption) _; k_whole); intro h9 tk9 ps9 c9 oc9 kp9 N9 tb9 hn9; (try dsimp only); (try k_fold)))
  k_with "ColEnd" => (k_dflt (exact ColEnd.intro (by assumption) (by assumption) (by assumption) (by assumption)))
  k_with "FinE" => ((with_reducible rename (TlOk _ _ _) => ht9); unfold LCg.FinE; intro D' h' tk' F' N' o1'; (try dsimp only))
  k_with "call builtin:all" => (k_here; (with_reducible rename (TlOk _ _ _) => ht9); (with_reducible rename (LSm.BoolsAre _ _) => hb9); (with_reducible rename (_ ∈ _) => hm9); (with_reducible rename (Shared.gens _ = _) => hg9); (k_dflt (refine LSm.all_bools (by k_asm) (by k_asm) (by rfl) (by exact News.isList (by k_asm) (List.Mem.head _)) hb9 ?_)); intro h' tk' F' N'; (try k_unfold); (try dsimp only); (k_dflt (exact law_end (all_true _) F' N' (List.Mem.tail _ hm9) rfl hg9)))
  k_with "eval IfExp" => (k_here; (rename Fr _ _ _ _ => F'); (rename News _ _ _ _ => N'); refine joinM F' N' ?_ ?_)
  k_with "JoinM" => (first | exact ⟨⟨_, _, rfl⟩, ⟨⟨_, _, rfl, by assumption, by assumption⟩⟩⟩ | exact ⟨⟨0, _, rfl⟩, ⟨⟨_, _, rfl, by assumption, by assumption⟩⟩⟩)
  k_with "KJoinB2" => ((show ∀ _ _ _, _ → _); intro xJ tJ sJ hJ; obtain ⟨hJ', tkJ, eJ, F'', N''⟩ := KJoinAt.at_ hJ; subst eJ; (try k_sweep))
  k_go0
  all_goals try k_fold
  k_steps)
end
end
end Mine
theorem PySem.Challenge.cw_mj0002_01_holds : PySem.Challenge.rw_mj0002_01.Holds :=
  Mine.law_holds
