import PyProof.Rows.All
import Wide.All
import OpenK.AllK
import Wide.FinOn
import PySem.Challenge.RW_mj0002_02
set_option Elab.async false
namespace Mine
local macro_rules | `(tactic| walk_at $s:str) => `(tactic| k_extra $s)
local macro_rules | `(tactic| k_ne) => `(tactic| k_extra "k_ne")
local macro_rules | `(tactic| k_room) => `(tactic| k_extra "k_room")
local macro_rules | `(tactic| size_fits) => `(tactic| k_extra "size_fits")
local macro_rules | `(tactic| k_all) => `(tactic| k_extra "k_all")
local macro_rules | `(tactic| k_lt $_:ident) => `(tactic| k_extra "k_lt")
local macro_rules | `(tactic| k_mem) => `(tactic| k_extra "k_mem")
local macro_rules | `(tactic| omega) => `(tactic| k_extra "omega")
local macro_rules | `(tactic| ktr_room) => `(tactic| k_extra "ktr_room")
local macro_rules | `(tactic| ktr_units) => `(tactic| k_extra "ktr_units")
section
open PySem PySem.W PyProof.Rows
namespace H
/-- a thing that is worked out once, and the proof that it is the thing meant -/
noncomputable abbrev told {α : Type} {a : α} (x : α) (_ : a = x) : α := x
set_option maxRecDepth 100000 in
/-- the text's statements without the two that bind the module's name -/
noncomputable def view02 : Program :=
  { PySem.Challenge.rw_mj0002_02.row.toRowW.prog with main := { PySem.Challenge.rw_mj0002_02.row.toRowW.prog.main with
      body := told (a := (view PySem.Challenge.rw_mj0002_02.row.toRowW.prog [1, 2, 3, 4, 5, 6, 7, 8, 9, 10, 12, 13, 14, 15, 16, 17, 18, 19, 20, 21, 22]).main.body)
        [_, _, _, _, _, _, _, _, _, _, _, _, _, _, _, _, _, _, _, _, _] rfl } }
set_option hygiene false in
/-- the head with this view, and the top checked in one run of 638 steps -/
local macro_rules | `(tactic| o_head $H) => `(tactic| refine holds_open (q := view02) (loose := [Str.ofString "ONE_THIRD", Str.ofString "ONE_SIXTH", Str.ofString "TWO_THIRD"])
  (Xt := fun s => xlAt view02 [(Str.ofString "ONE_THIRD", WData.float 4599676419421066581), (Str.ofString "ONE_SIXTH", WData.float 4595172819793696085), (Str.ofString "TWO_THIRD", WData.float 4604180019048437077)] s && recOk (RowW.records PySem.Challenge.rw_mj0002_02.row.toRowW) s)
  (XP := XL view02 [(Str.ofString "ONE_THIRD", WData.float 4599676419421066581), (Str.ofString "ONE_SIXTH", WData.float 4595172819793696085), (Str.ofString "TWO_THIRD", WData.float 4604180019048437077)])
  (Yf := Hook.obs $H) (Ya := Hook.val $H) (YP := Hook.says $H) (N := 1376) (fun w => by kernel_rfl) (Hook.of $H) (Hook.keeps $H) (fun s e => xl_of s (Bool.and_eq_true_iff.mp e).1) XL.keeps (by rfl) (by rfl) (by rfl)
  (fun s e => recFacts_of (Bool.and_eq_true_iff.mp e).2) (by rfl) (by first | assumption | decide +kernel) (by decide +kernel) ⟨rfl, rfl, rfl, rfl, rfl, by decide +kernel⟩ ?hw ?hc)
set_option maxRecDepth 100000 in
set_option maxHeartbeats 8000000 in
open_top hd02 for PySem.Challenge.rw_mj0002_02
end H
end
section
open PySem PySem.W PyProof.Rows PySem.Flt
section
noncomputable def fmax2 (x y : UInt64) : UInt64 := if (Float64.cmp x y == some .lt) = true then y else x
noncomputable def fmin2 (x y : UInt64) : UInt64 := if (Float64.cmp y x == some .lt) = true then y else x
noncomputable def fmax3 (x y z : UInt64) : UInt64 := fmax2 (fmax2 x y) z
noncomputable def fmin3 (x y z : UInt64) : UInt64 := fmin2 (fmin2 x y) z
section
variable {prog : Program} {w : World} {A : Around} {E : Value → Shared → Prop} {s : Shared} {Q : Value → Shared → Prop}
end
end
end
section
open PySem PySem.W PyProof.Rows PySem.Flt
section
open Float64 (add sub mul div cmp divmod ofInt isZero isFinite isNaN isInf)
noncomputable abbrev c0 : UInt64 := 0
noncomputable abbrev c1 : UInt64 := 4607182418800017408
noncomputable abbrev c2 : UInt64 := 4611686018427387904
noncomputable abbrev c4 : UInt64 := 4616189618054758400
noncomputable abbrev c6 : UInt64 := 4618441417868443648
noncomputable abbrev cHalf : UInt64 := 4602678819172646912
noncomputable abbrev cThird : UInt64 := 4599676419421066581
noncomputable abbrev cSixth : UInt64 := 4595172819793696085
noncomputable abbrev cTwoThird : UInt64 := 4604180019048437077
noncomputable def feq (x y : UInt64) : Bool := cmp x y == some .eq
noncomputable def flt (x y : UInt64) : Bool := cmp x y == some .lt
noncomputable def fle (x y : UInt64) : Bool := cmp x y == some .lt || cmp x y == some .eq
noncomputable def fgt (x y : UInt64) : Bool := cmp x y == some .gt
-- rgb_to_yiq
noncomputable def yiqY (r g b : UInt64) : UInt64 := add (add (mul 4599075939470750515 r) (mul 4603489467105573601 g)) (mul 4592590756007337001 b)
noncomputable def yiqI (r g b : UInt64) : UInt64 := sub (mul 4604840546993784750 (sub r (yiqY r g b))) (mul 4598535507515466056 (sub b (yiqY r g b)))
noncomputable def yiqQ (r g b : UInt64) : UInt64 := add (mul 4602318531202457272 (sub r (yiqY r g b))) (mul 4601057523306793533 (sub b (yiqY r g b)))
-- rgb_to_hsv, rgb_to_hls
noncomputable def mx (r g b : UInt64) : UInt64 := fmax3 r g b
noncomputable def mn (r g b : UInt64) : UInt64 := fmin3 r g b
noncomputable def rg (r g b : UInt64) : UInt64 := sub (fmax3 r g b) (fmin3 r g b)
noncomputable def grey (r g b : UInt64) : Bool := feq (fmin3 r g b) (fmax3 r g b)
noncomputable def cc (r g b x : UInt64) : UInt64 := div (sub (fmax3 r g b) x) (rg r g b)
noncomputable def hue6 (r g b : UInt64) : UInt64 :=
  if feq r (fmax3 r g b) = true then sub (cc r g b b) (cc r g b g)
  else if feq g (fmax3 r g b) = true then sub (add c2 (cc r g b r)) (cc r g b b)
  else sub (add c4 (cc r g b g)) (cc r g b r)
noncomputable def hueOf (r g b : UInt64) : UInt64 := if grey r g b = true then 0 else (divmod (div (hue6 r g b) c6) c1).2
noncomputable def satV (r g b : UInt64) : UInt64 := if grey r g b = true then 0 else div (rg r g b) (fmax3 r g b)
noncomputable def light (r g b : UInt64) : UInt64 := div (add (fmax3 r g b) (fmin3 r g b)) c2
noncomputable def satL (r g b : UInt64) : UInt64 :=
  if grey r g b = true then 0
  else if fle (light r g b) cHalf = true then div (rg r g b) (add (fmax3 r g b) (fmin3 r g b))
  else div (rg r g b) (sub (sub c2 (fmax3 r g b)) (fmin3 r g b))
-- hsv_to_rgb
noncomputable def sec (h : UInt64) : Int := toInt Float64.truncOf (mul h c6)
noncomputable def frc (h : UInt64) : UInt64 := sub (mul h c6) (ofInt (sec h))
noncomputable def vP (s v : UInt64) : UInt64 := mul v (sub c1 s)
noncomputable def vQ (h s v : UInt64) : UInt64 := mul v (sub c1 (mul s (frc h)))
noncomputable def vT (h s v : UInt64) : UInt64 := mul v (sub c1 (mul s (sub c1 (frc h))))
noncomputable def hsvR (h s v : UInt64) : UInt64 :=
  if feq s 0 = true then v else if (sec h).fmod 6 = 0 then v else if (sec h).fmod 6 = 1 then vQ h s v else if (sec h).fmod 6 = 2 then vP s v else if (sec h).fmod 6 = 3 then vP s v else if (sec h).fmod 6 = 4 then vT h s v else v
noncomputable def hsvG (h s v : UInt64) : UInt64 :=
  if feq s 0 = true then v else if (sec h).fmod 6 = 0 then vT h s v else if (sec h).fmod 6 = 1 then v else if (sec h).fmod 6 = 2 then v else if (sec h).fmod 6 = 3 then vQ h s v else if (sec h).fmod 6 = 4 then vP s v else vP s v
noncomputable def hsvB (h s v : UInt64) : UInt64 :=
  if feq s 0 = true then v else if (sec h).fmod 6 = 0 then vP s v else if (sec h).fmod 6 = 1 then vP s v else if (sec h).fmod 6 = 2 then vT h s v else if (sec h).fmod 6 = 3 then v else if (sec h).fmod 6 = 4 then v else vQ h s v
-- hls_to_rgb
noncomputable def fv6 (m1 m2 hue : UInt64) : UInt64 :=
  if flt (divmod hue c1).2 cSixth = true then add m1 (mul (mul (sub m2 m1) (divmod hue c1).2) c6)
  else if flt (divmod hue c1).2 cHalf = true then m2
  else if flt (divmod hue c1).2 cTwoThird = true then add m1 (mul (mul (sub m2 m1) (sub cTwoThird (divmod hue c1).2)) c6)
  else m1
noncomputable def lM2 (l s : UInt64) : UInt64 := if fle l cHalf = true then mul l (add c1 s) else sub (add l s) (mul l s)
noncomputable def lM1 (l s : UInt64) : UInt64 := sub (mul c2 l) (lM2 l s)
noncomputable def hlsR (h l s : UInt64) : UInt64 := if feq s 0 = true then l else fv6 (lM1 l s) (lM2 l s) (add h cThird)
noncomputable def hlsG (h l s : UInt64) : UInt64 := if feq s 0 = true then l else fv6 (lM1 l s) (lM2 l s) h
noncomputable def hlsB (h l s : UInt64) : UInt64 := if feq s 0 = true then l else fv6 (lM1 l s) (lM2 l s) (sub h cThird)
-- yiq_to_rgb
noncomputable def clampF (x : UInt64) : UInt64 := if flt x 0 = true then 0 else if fgt x c1 = true then c1 else x
noncomputable def yR (y i q : UInt64) : UInt64 := clampF (add (add y (mul 4606703976345377586 i)) (mul 4603791717925830846 q))
noncomputable def yG (y i q : UInt64) : UInt64 := clampF (sub (sub y (mul 4598621754083818298 i)) (mul 4603901015759978483 q))
noncomputable def yB (y i q : UInt64) : UInt64 := clampF (add (sub y (mul 4607671262177584182 i)) (mul 4610375502138591871 q))
noncomputable def isF (share : UInt64) (parts whole : Int) : Bool := toInt Float64.nearestOf (mul (mul share (ofInt whole)) (ofInt 1048576)) == parts * 1048576
theorem not_nan_t {x : UInt64} (h : isFinite x = true) : ¬ isNaN x = true := Bool.eq_false_iff.mp (not_nan_of_finite h)
theorem not_inf_t {x : UInt64} (h : isFinite x = true) : ¬ isInf x = true := Bool.eq_false_iff.mp (not_inf_of_finite h)
theorem fmod6 (i : Int) : i.fmod 6 = 0 ∨ i.fmod 6 = 1 ∨ i.fmod 6 = 2 ∨ i.fmod 6 = 3 ∨ i.fmod 6 = 4 ∨ i.fmod 6 = 5 := by
  have h0 := Int.fmod_nonneg_of_pos i (show (0 : Int) < 6 by decide)
  have h1 := Int.fmod_lt_of_pos i (show (0 : Int) < 6 by decide)
  obtain ⟨n, hn⟩ := Int.eq_ofNat_of_zero_le h0
  rw [hn] at h1 ⊢
  have h2 := Int.ofNat_lt.mp h1
  match n, h2 with
  | 0, _ => exact Or.inl rfl
  | 1, _ => exact Or.inr (Or.inl rfl)
  | 2, _ => exact Or.inr (Or.inr (Or.inl rfl))
  | 3, _ => exact Or.inr (Or.inr (Or.inr (Or.inl rfl)))
  | 4, _ => exact Or.inr (Or.inr (Or.inr (Or.inr (Or.inl rfl))))
  | 5, _ => exact Or.inr (Or.inr (Or.inr (Or.inr (Or.inr rfl))))
  | n + 6, h => exact absurd h (Nat.not_lt.mpr (Nat.le_add_left 6 n))
end
end
section
open PySem PySem.W PyProof.Rows
section
noncomputable abbrev loose1 : List Str := looseW H.view02 [Str.ofString "ONE_THIRD", Str.ofString "ONE_SIXTH", Str.ofString "TWO_THIRD"] ++ List.map (fun x => x.name) (recsOf H.view02) ++ List.map (fun x => x.fst) (litsOf H.view02) ++ List.map (fun x => x.name) (clssOf H.view02 (looseW H.view02 [Str.ofString "ONE_THIRD", Str.ofString "ONE_SIXTH", Str.ofString "TWO_THIRD"]))
/-- small side conditions: the room of frames and of C units, the size of a list -/
theorem rm1 {a c k K l : Nat} (h : a + K < l) (e : (c + k).ble K = true) : a + c + k < l := by
  rw [Nat.add_assoc]; exact Nat.lt_of_le_of_lt (Nat.add_le_add_left (Nat.le_of_ble_eq_true e) a) h
theorem rm0 {a K l : Nat} (h : a + K < l) : a < l := Nat.lt_of_le_of_lt (Nat.le_add_right a K) h
theorem szle {n : Nat} (e : n.ble 16777216 = true) : n ≤ sizeLine := Nat.le_of_ble_eq_true e
noncomputable abbrev tup (vs : List Value) : Obj := { cls := .type "tuple", data := .seq vs.toArray }
theorem genTokP {α : Type} {M : Model} {A : Around} {t : Sem α} {Q : α → Shared → Prop} {E : Value → Shared → Prop} {h : Heap} {g : Array GenState} {d : Drawn} {X : Nat} {os : OsState} (H : ∀ tk : Nat, tk ≠ 0 → wpAny M A t Q E ⟨h, g, d, tk, os⟩) : wpAny M A t Q E ⟨h, g, d, X + 1, os⟩ := H _ (Nat.succ_ne_zero _)
/-- a contract: def `f` called with `vs`; what it hands back is told by `Ret`. -/
noncomputable abbrev Con (k : Nat) (w : World) (mean : ExcName → Option Value) (mg mb : Str → Option Value) (f : Addr) (vs : List Value)
    (Ret : Heap → Addr → (Str → Option Value) → List (Addr × Obj) → Shared → (Value → Shared → Prop) → Prop) : Prop :=
  ∀ (dp un : Nat) (gd : Option (List Code)) (cn : Str) (cs : Scope) (a : Addr) (ccd : Value) (cl : List (Str × Addr)) (outer : List Env) (A₀ : Around) (base h₀ : Heap) (L : Addr) (m : Str → Option Value) (s : Shared) (Q E : Value → Shared → Prop) (news : List (Addr × Obj)),
    Below A₀ base outer h₀ → Fr h₀ L s.heap m → (H.hd02.heap_39 w.params).In h₀ → News h₀ L s.heap news → Top topProg loose1 mean mg mb h₀ → cs.kind = .function → dp + k < recursionLimit → un + 8 * k < cLine →
    Ret h₀ L m news s Q →
    wpAny (model Challenge.rw_mj0002_02.row.prog w) (ktrTop dp un gd cn cs L a ccd cl outer) (call (.ref f) vs) Q E s
/-- hands back a float -/
noncomputable abbrev RetF (x : UInt64) (h₀ : Heap) (L : Addr) (m : Str → Option Value) (news : List (Addr × Obj)) (s : Shared) (Q : Value → Shared → Prop) : Prop :=
  ∀ (t : Tok) (h' : Heap) (tk' : Nat), Fr h₀ L h' m → News h₀ L h' news → Q (.float x t) { s with heap := h', toks := tk' }
/-- hands back a new tuple of three floats -/
noncomputable abbrev RetT (x y z : UInt64) (h₀ : Heap) (L : Addr) (m : Str → Option Value) (news : List (Addr × Obj)) (s : Shared) (Q : Value → Shared → Prop) : Prop :=
  ∀ (p : Addr) (t1 t2 t3 : Tok) (h' : Heap) (tk' : Nat), Fr h₀ L h' m → News h₀ L h' ((p, tup [.float x t1, .float y t2, .float z t3]) :: news) → (∀ q ∈ news, q.1 < p) → Q (.ref p) { s with heap := h', toks := tk' }
/-- hands back a new tuple of three floats, whose tokens are told -/
noncomputable abbrev RetTN (x y z : UInt64) (h₀ : Heap) (L : Addr) (m : Str → Option Value) (news : List (Addr × Obj)) (s : Shared) (Q : Value → Shared → Prop) : Prop :=
  ∀ (p : Addr) (t1 t2 t3 : Tok) (h' : Heap) (tk' : Nat), t1 ≠ 0 → t2 ≠ 0 → t3 ≠ 0 → Fr h₀ L h' m → News h₀ L h' ((p, tup [.float x t1, .float y t2, .float z t3]) :: news) → (∀ q ∈ news, q.1 < p) → Q (.ref p) { s with heap := h', toks := tk' }
noncomputable abbrev RetFN (x : UInt64) (h₀ : Heap) (L : Addr) (m : Str → Option Value) (news : List (Addr × Obj)) (s : Shared) (Q : Value → Shared → Prop) : Prop :=
  ∀ (t : Tok) (h' : Heap) (tk' : Nat), t ≠ 0 → Fr h₀ L h' m → News h₀ L h' news → Q (.float x t) { s with heap := h', toks := tk' }
theorem retT_use {x y z x' y' z' : UInt64} {h₀ : Heap} {L : Addr} {m : Str → Option Value} {news : List (Addr × Obj)} {s : Shared} {Q : Value → Shared → Prop} {p : Addr} {t1 t2 t3 : Tok} {h' : Heap} {tk' : Nat}
    (hret : RetT x y z h₀ L m news s Q) (F : Fr h₀ L h' m) (N : News h₀ L h' ((p, tup [.float x' t1, .float y' t2, .float z' t3]) :: news)) (l : ∀ q ∈ news, q.1 < p) (ex : x' = x) (ey : y' = y) (ez : z' = z) :
    Q (.ref p) { s with heap := h', toks := tk' } := by
  subst ex ey ez
  exact hret p t1 t2 t3 h' tk' F N l
theorem retF_use {x x' : UInt64} {h₀ : Heap} {L : Addr} {m : Str → Option Value} {news : List (Addr × Obj)} {s : Shared} {Q : Value → Shared → Prop} {t : Tok} {h' : Heap} {tk' : Nat}
    (hret : RetF x h₀ L m news s Q) (F : Fr h₀ L h' m) (N : News h₀ L h' news) (ex : x' = x) :
    Q (.float x' t) { s with heap := h', toks := tk' } := by
  subst ex
  exact hret t h' tk' F N
/-- hands back a bool -/
noncomputable abbrev RetB (x : Bool) (h₀ : Heap) (L : Addr) (m : Str → Option Value) (news : List (Addr × Obj)) (s : Shared) (Q : Value → Shared → Prop) : Prop :=
  ∀ (h' : Heap) (tk' : Nat), Fr h₀ L h' m → News h₀ L h' news → Q (.bool x) { s with heap := h', toks := tk' }
theorem drop1 {h₀ h : Heap} {L : Addr} {a : Addr × Obj} {r : List (Addr × Obj)} (N : News h₀ L h (a :: r)) : News h₀ L h r := fun q hq => N q (List.mem_cons_of_mem _ hq)
theorem drop2 {h₀ h : Heap} {L : Addr} {a b : Addr × Obj} {r : List (Addr × Obj)} (N : News h₀ L h (a :: b :: r)) : News h₀ L h r := drop1 (drop1 N)
theorem drop4 {h₀ h : Heap} {L : Addr} {a b c d : Addr × Obj} {r : List (Addr × Obj)} (N : News h₀ L h (a :: b :: c :: d :: r)) : News h₀ L h r := drop2 (drop2 N)
theorem ltAll {l : List (Addr × Obj)} {a b : Addr} {o : Obj} (h : ∀ q ∈ l, q.1 < b) (m : (a, o) ∈ l) : a < b := h _ m
theorem ltAllS {l : List (Addr × Obj)} {a b : Addr} {o : Obj} (h : ∀ q ∈ l, q.1 < b) (m : (a, o) ∈ l) : a < b + 1 := Nat.lt_succ_of_lt (h _ m)
theorem ltAllSS {l : List (Addr × Obj)} {a b : Addr} {o : Obj} (h : ∀ q ∈ l, q.1 < b) (m : (a, o) ∈ l) : a < b + 2 := Nat.lt_succ_of_lt (Nat.lt_succ_of_lt (h _ m))
theorem ltAllSSS {l : List (Addr × Obj)} {a b : Addr} {o : Obj} (h : ∀ q ∈ l, q.1 < b) (m : (a, o) ∈ l) : a < b + 1 + 1 := Nat.lt_succ_of_lt (Nat.lt_succ_of_lt (h _ m))
theorem ltVia {l : List (Addr × Obj)} {a b c : Addr} {o : Obj} (h2 : @LT.lt Nat _ b c) (h : ∀ q ∈ l, q.1 < b) (m : (a, o) ∈ l) : a < c := Nat.lt_trans (h _ m) h2
theorem neAll {l : List (Addr × Obj)} {a : Addr} (h : ∀ q ∈ l, q.1 < a) : ∀ q ∈ l, q.1 ≠ a := fun q hq => Nat.ne_of_lt (h q hq)
theorem compEnd_same {h₀ : Heap} {L I C D : Addr} {m : Str → Option Value} {s₁ : Shared} {oI oC oD : Obj} {S : List (Addr × Obj) → Prop} {rest : Value → List (Addr × Obj) → Prop} {y : Value} {h' : Heap} {tk : Nat} {news' : List (Addr × Obj)}
    (F : Fr h₀ L h' m) (N : News h₀ L h' ((I, oI) :: (C, oC) :: (D, oD) :: news')) (off : LCg.Off3 I C D news') (hS : S news') (r : rest y news') :
    LCg.CompEnd h₀ L m s₁ I oI C oC D oD S rest y { s₁ with heap := h', toks := tk } := LCg.CompEnd.intro F N news' (fun _ hp => hp) off hS r
theorem off1 {D a : Addr} {o : Obj} {l : List (Addr × Obj)} (h : LCg.Off1 D l) (m : (a, o) ∈ l) : a ≠ D := by
  induction l with
  | nil => cases m
  | cons p r ih =>
    rcases List.mem_cons.mp m with e | m
    · subst e; exact h.1
    · exact ih h.2 m
theorem offI {I C D a : Addr} {o : Obj} {l : List (Addr × Obj)} (h : LCg.Off3 I C D l) (m : (a, o) ∈ l) : a ≠ I := (LCg.Off3.mem h _ m).1
theorem offC {I C D a : Addr} {o : Obj} {l : List (Addr × Obj)} (h : LCg.Off3 I C D l) (m : (a, o) ∈ l) : a ≠ C := (LCg.Off3.mem h _ m).2.1
theorem offD {I C D a : Addr} {o : Obj} {l : List (Addr × Obj)} (h : LCg.Off3 I C D l) (m : (a, o) ∈ l) : a ≠ D := (LCg.Off3.mem h _ m).2.2
end
end
section
set_option maxRecDepth 100000
section
open PySem PySem.W PySem.Calls PyProof.Rows
section
variable {prog : Program} {w : World} {A A₀ : Around} {E : Value → Shared → Prop} {s : Shared} {K : Frag} {L : Addr} {h₀ base : Heap} {m mg mb : Str → Option Value} {news : List (Addr × Obj)} {p : Program} {loose : List Str} {mean : ExcName → Option Value}
/-- entering a def that has cells, and what of the caller's heap stays in the ground -/
theorem code_defCG {env : Env} {outer : List Env} {R : Result → Shared → Prop} {name qual : Str} {params : Arguments} {body : List Stmt} {scope : Scope} {dV kV doc pm cdv ct oc : Value} {an od : Option Addr} {osl : Array (Option Value)} {f : Addr} {args : Args} {binds : List (Str × Value)}
    (B : Below A₀ base outer h₀) (F : Fr h₀ L s.heap m) (X₀ : K.In h₀) (N : News h₀ L s.heap news) (T : Top p loose mean mg mb h₀) (hA : A.frames = some (env :: outer)) (hf : env.frame = some L) (hke : env.scope.kind = .function)
    (ho : K.lookup f = some ⟨oc, od, .func (fnOf name qual params body scope dV kV doc pm an cdv ct), osl⟩) (hcd : codeIn K cdv qual = true) (hroom : A.depth < recursionLimit)
    (hbind : BindsTo s (fnOf name qual params body scope dV kV doc pm an cdv ct) args binds) (hkind : (binds.all fun y => scope.names.lookup y.1 == some .local || scope.names.lookup y.1 == some .cell) = true)
    (hnd : ((cellsFrom 0 scope.names []).map (·.1)).Nodup)
    (h : ∀ g L' h₁ tk cells, Fr h₀ L g m → Fr g L' h₁ (bindL (envOfC qual scope L' f cdv).kindOf binds fun _ => none) → News g L' h₁ (cells ++ news) →
      CellsAre (bindC (envOfC qual scope L' f cdv).kindOf binds fun _ => none) (cellsFrom (L' + 1) scope.names []) cells → Below A base (env :: outer) g → K.In g → Top p loose mean mg mb g → (∀ p ∈ news, p.1 < L') → GSub s.heap g (news.map (·.1)) → @LE.le Nat _ s.heap.objs.size L' →
      wpAny (model prog w) (A.deeper (envOfC qual scope L' f cdv)) (execs body (envOfC qual scope L' f cdv))
        (fun fl s' => LeaveK h₀ L m g R (match fl with | .ret v => v | _ => .none) s')
        (fun e s' => wpAny (model prog w) (A.deeper (envOfC qual scope L' f cdv)) (leaving (envOfC qual scope L' f cdv) e) (fun _ s'' => R (.error e) s'') (fun e' s'' => R (.error e') s'') s')
        { s with heap := h₁, toks := tk })
    (hco : scope.isCoroutine = false) (hgen : scope.isGenerator = false) (hk : scope.kind = .function) : codeAny (model prog w) A (.call (.ref f) args) R s := by
  obtain ⟨FG, BG, st, lv⟩ := groundX (R := R) B F N hA hf hke
  refine codeAny_call_function hroom ((X₀.keeps F.keep) _ _ ho) (fd := fnX name qual params body scope [] dV kV doc pm an cdv ct) rfl hco hgen rfl (codeRec_of (X₀.keeps F.keep) hcd) (hbind _ _ _ _ ?_)
  refine wpAny_newFunctionEnv_cells hk (kindsX hkind _) fun env' he s' x => ?_
  subst he
  refine ⟨(T.nolimit.keeps F.keep).keeps x.toInCall.keep, codeAny_func ?_⟩
  obtain ⟨h₁, tk, rfl, _⟩ := x.done
  have hk₁ := x.toInCall.keep
  obtain ⟨cells, NC, Y⟩ := Cl.news (h₀ := s.heap) (Nat.le_refl _) fun n c hm => ⟨x.cell n c (lookup_of_mem_nodup (cellsFrom_names scope.names 0 (s.heap.objs.size + 1) [] [] rfl ▸ hnd) hm), x.above n c hm⟩
  refine wpAny_mono (h _ s.heap.objs.size h₁ tk cells FG ⟨x.toInCall.ns, fun b o e => hk₁ b o (of_hideAll _ e), Nat.le_of_eq (hideAll_size _ _)⟩ (fun p hp => ?_) Y BG (X₀.keeps st) (T.keeps st) (fun p hp => Heap.lt_size (N p hp).1) (fun b o e n => hideAll_get _ e n) (Nat.le_refl _)) (fun fl s' hl => lv _ _ hl) fun _ _ y => y
  rcases List.mem_append.mp hp with hp | hp
  · refine ⟨(NC p hp).1, (NC p hp).2.1, ?_⟩
    cases q : (hideAll s.heap (news.map (·.1))).get? p.1 with
    | none => rfl
    | some o => have := of_hideAll _ q; rw [(NC p hp).2.2] at this; cases this
  · exact ⟨hk₁ _ _ (N p hp).1, Nat.ne_of_lt (Heap.lt_size (N p hp).1), hideAll_none _ (List.mem_map_of_mem hp)⟩
end
end
section
open PySem PySem.W PySem.Calls PyProof.Rows
theorem genTok {α : Type} {M : Model} {A : Around} {t : Sem α} {Q : α → Shared → Prop} {E : Value → Shared → Prop} {h : Heap} {g : Array GenState} {d : Drawn} {X : Nat} {os : OsState} (H : ∀ tk, wpAny M A t Q E ⟨h, g, d, tk, os⟩) : wpAny M A t Q E ⟨h, g, d, X, os⟩ := H X
noncomputable abbrev Keep (h h' : Heap) : Prop := ∀ b o, h.get? b = some o → h'.get? b = some o
/-- a contract with a small ledger; the rest of the heap is kept -/
noncomputable abbrev ConK (k : Nat) (w : World) (mean : ExcName → Option Value) (mg mb : Str → Option Value) (f : Addr) (vs : List Value) (small : List (Addr × Obj))
    (Ret : Shared → (Value → Shared → Prop) → Prop) : Prop :=
  ∀ (dp un : Nat) (gd : Option (List Code)) (cn : Str) (cs : Scope) (a : Addr) (ccd : Value) (cl : List (Str × Addr)) (outer : List Env) (A₀ : Around) (base h₀ : Heap) (L : Addr) (m : Str → Option Value) (s : Shared) (Q E : Value → Shared → Prop),
    Below A₀ base outer h₀ → Fr h₀ L s.heap m → (H.hd02.heap_39 w.params).In h₀ → News h₀ L s.heap small → Top topProg loose1 mean mg mb h₀ → cs.kind = .function → dp + k < recursionLimit → un + 8 * k < cLine →
    Ret s Q →
    wpAny (model Challenge.rw_mj0002_02.row.prog w) (ktrTop dp un gd cn cs L a ccd cl outer) (call (.ref f) vs) Q E s
noncomputable abbrev RetBK (x : Bool) (s : Shared) (Q : Value → Shared → Prop) : Prop := ∀ (h' : Heap) (tk' : Nat), Keep s.heap h' → Q (.bool x) { s with heap := h', toks := tk' }
theorem keep_of {h₀ g h h' : Heap} {L L' : Addr} {m' : Str → Option Value} {small : List (Addr × Obj)} (N0 : News h₀ L h small) (GS : GSub h g (small.map (·.1))) (F' : Fr g L' h' m') (kN : News h₀ L h' small) : Keep h h' := fun b o e => by
  by_cases hb : b ∈ small.map (·.1)
  · obtain ⟨q, hq, rfl⟩ := List.mem_map.mp hb
    have e1 := (N0 q hq).1
    rw [e] at e1
    cases e1
    exact (kN q hq).1
  · exact F'.keep b o (GS b o e hb)
theorem retBK_use {x x' : Bool} {s : Shared} {Q : Value → Shared → Prop} {h₀ g h' : Heap} {L L' : Addr} {m' : Str → Option Value} {small : List (Addr × Obj)} {tk' : Nat}
    (hret : RetBK x s Q) (N0 : News h₀ L s.heap small) (GS : GSub s.heap g (small.map (·.1))) (F' : Fr g L' h' m') (kN : News h₀ L h' small) (e : x' = x) : Q (.bool x') { s with heap := h', toks := tk' } := by
  subst e
  exact hret h' tk' (keep_of N0 GS F' kN)
end
end
section
open PySem PySem.W PyProof.Rows
section
@[irreducible] def sh (a b : Int) : UInt64 := Float64.ofFrac (decide (a < 0) != decide (b < 0)) a.natAbs b.natAbs
theorem sh_def (a b : Int) : sh a b = Float64.ofFrac (decide (a < 0) != decide (b < 0)) a.natAbs b.natAbs := by unfold sh; rfl
theorem div_sh {prog : Program} {w : World} {A : Around} {E : Value → Shared → Prop} {s : Shared} {Q : Value → Shared → Prop} {a b : Int} {t u : Tok} {x : UInt64} (hA : A.handled = none) (hfit : a.natAbs < 2 ^ 40) (hb : b ≠ 0) (e : sh a b = x)
    (h : Q (.float x s.toks) { s with toks := s.toks + 1 }) : wpAny (model prog w) A (binaryOp .Div (.int a t) (.int b u)) Q E s := by
  subst e
  rw [sh_def] at h
  exact Flt.div_ii_fits hA (Nat.lt_of_lt_of_le hfit (Nat.pow_le_pow_right (by decide) (by decide))) (fun h => absurd h hb) (fun _ _ => h)
structure Is (x : UInt64) (p w : Int) : Prop where
  hp : p.natAbs < 2 ^ 40
  hw : 0 < w
  hw2 : w < 2 ^ 40
  fin : Float64.isFinite (Float64.mul (Float64.mul x (Float64.ofInt w)) (Float64.ofInt 1048576)) = true
  is : isF x p w = true
end
end
section
set_option maxRecDepth 100000
section
open PySem PySem.W PySem.Calls PyProof.Rows
noncomputable abbrev fl3 (x y z : UInt64) (t1 t2 t3 : Tok) : Obj := LCg.lst [.float x t1, .float y t2, .float z t3]
noncomputable abbrev in3 (n : Nat) (r g b : Int) (t1 t2 t3 : Tok) : Obj := listOf #[.int r t1, .int g t2, .int b t3] n
/-- a contract with a small ledger, the rest of the heap is kept; what is new is told by `New` -/
noncomputable abbrev ConL (k : Nat) (w : World) (mean : ExcName → Option Value) (mg mb : Str → Option Value) (f : Addr) (vs : List Value) (small : List (Addr × Obj))
    (Ret : Heap → Addr → Shared → (Value → Shared → Prop) → Prop) : Prop :=
  ∀ (dp un : Nat) (gd : Option (List Code)) (cn : Str) (cs : Scope) (a : Addr) (ccd : Value) (cl : List (Str × Addr)) (outer : List Env) (A₀ : Around) (base h₀ : Heap) (L : Addr) (m : Str → Option Value) (s : Shared) (Q E : Value → Shared → Prop),
    Below A₀ base outer h₀ → Fr h₀ L s.heap m → (H.hd02.heap_39 w.params).In h₀ → News h₀ L s.heap small → Top topProg loose1 mean mg mb h₀ → cs.kind = .function → dp + k < recursionLimit → un + 8 * k < cLine →
    Ret h₀ L s Q →
    wpAny (model Challenge.rw_mj0002_02.row.prog w) (ktrTop dp un gd cn cs L a ccd cl outer) (call (.ref f) vs) Q E s
/-- hands back a new list of three floats -/
noncomputable abbrev RetL3 (x y z : UInt64) (h₀ : Heap) (L : Addr) (s : Shared) (Q : Value → Shared → Prop) : Prop :=
  ∀ (p : Addr) (t1 t2 t3 : Tok) (h' : Heap) (tk' : Nat), Keep s.heap h' → s.heap.get? p = none → News h₀ L h' [(p, fl3 x y z t1 t2 t3)] → Q (.ref p) { s with heap := h', toks := tk' }
/-- hands back a new list of three ints -/
noncomputable abbrev RetI3 (x y z : Int) (h₀ : Heap) (L : Addr) (s : Shared) (Q : Value → Shared → Prop) : Prop :=
  ∀ (p : Addr) (n : Nat) (t1 t2 t3 : Tok) (h' : Heap) (tk' : Nat), Keep s.heap h' → s.heap.get? p = none → News h₀ L h' [(p, in3 n x y z t1 t2 t3)] → Q (.ref p) { s with heap := h', toks := tk' }
theorem fresh_heap {h g : Heap} {small : List (Addr × Obj)} {p : Addr} (GS : GSub h g (small.map (·.1))) (hg : g.get? p = none) (off : ∀ q ∈ small, q.1 ≠ p) : h.get? p = none := by
  cases e : h.get? p with
  | none => rfl
  | some o =>
    have := GS p o e (fun hm => by
      obtain ⟨q, hq, rfl⟩ := List.mem_map.mp hm
      exact off q hq rfl)
    rw [hg] at this; cases this
theorem retL3_use {x y z : UInt64} {s : Shared} {Q : Value → Shared → Prop} {h₀ g h' : Heap} {L L' : Addr} {m' : Str → Option Value} {small all all' : List (Addr × Obj)} {tk' : Nat} {p : Addr} {t1 t2 t3 : Tok}
    (hret : RetL3 x y z h₀ L s Q) (N0 : News h₀ L s.heap small) (GS : GSub s.heap g (small.map (·.1))) (F' : Fr g L' h' m') (kN : News h₀ L h' all) (sub : ∀ q ∈ small, q ∈ all) (hm : (p, fl3 x y z t1 t2 t3) ∈ all) (N' : News g L' h' all') (hm' : (p, fl3 x y z t1 t2 t3) ∈ all') (off : ∀ q ∈ small, q.1 ≠ p) : Q (.ref p) { s with heap := h', toks := tk' } :=
  hret p t1 t2 t3 h' tk' (keep_of N0 GS F' fun q hq => kN q (sub q hq)) (fresh_heap GS (N' _ hm').2.2 off) fun q hq => by rw [List.mem_singleton.mp hq]; exact kN _ hm
theorem retI3_use {x y z : Int} {s : Shared} {Q : Value → Shared → Prop} {h₀ g h' : Heap} {L L' : Addr} {m' : Str → Option Value} {small all all' : List (Addr × Obj)} {tk' : Nat} {p : Addr} {n : Nat} {t1 t2 t3 : Tok}
    (hret : RetI3 x y z h₀ L s Q) (N0 : News h₀ L s.heap small) (GS : GSub s.heap g (small.map (·.1))) (F' : Fr g L' h' m') (kN : News h₀ L h' all) (sub : ∀ q ∈ small, q ∈ all) (hm : (p, in3 n x y z t1 t2 t3) ∈ all) (N' : News g L' h' all') (hm' : (p, in3 n x y z t1 t2 t3) ∈ all') (off : ∀ q ∈ small, q.1 ≠ p) : Q (.ref p) { s with heap := h', toks := tk' } :=
  hret p n t1 t2 t3 h' tk' (keep_of N0 GS F' fun q hq => kN q (sub q hq)) (fresh_heap GS (N' _ hm').2.2 off) fun q hq => by rw [List.mem_singleton.mp hq]; exact kN _ hm
theorem eq3_dec (a b c d e f : Int) : decide ([a, b, c] = [d, e, f]) = (a == d && (b == e && c == f)) := by
  by_cases h1 : a = d <;> by_cases h2 : b = e <;> by_cases h3 : c = f <;> simp [h1, h2, h3]
end
end
section
section
open PySem PySem.W PyProof.Rows
theorem cells_nil {cm : Str → Option Value} {cells : List (Addr × Obj)} (x : CellsAre cm [] cells) : cells = [] := by cases x; rfl
noncomputable def turn1 (both : Int) (c : Int × Int × Int) : Int × Int × Int := (both - c.2.1, both - c.2.2, both - c.1)
noncomputable def turnN (both : Int) : Nat → Int × Int × Int → Int × Int × Int
  | 0, c => c
  | n + 1, c => turn1 both (turnN both n c)
theorem turn_step {both M m x y z : Int} {pre : List Int} {v : Int} {c : Int × Int × Int} (e : M + m = both) (h1 : x = (turnN both pre.length c).1) (h2 : y = (turnN both pre.length c).2.1) (h3 : z = (turnN both pre.length c).2.2) :
    (M + m - y = (turnN both (pre ++ [v]).length c).1) ∧ (M + m - z = (turnN both (pre ++ [v]).length c).2.1) ∧ (M + m - x = (turnN both (pre ++ [v]).length c).2.2) := by
  subst e h1 h2 h3
  rw [List.length_append]
  exact ⟨rfl, rfl, rfl⟩
theorem turn_end {both k x y z : Int} {c : Int × Int × Int} (h1 : x = (turnN both (rangeKs 0 (k.fmod 6 - 0).toNat).length c).1) (h2 : y = (turnN both (rangeKs 0 (k.fmod 6 - 0).toNat).length c).2.1) (h3 : z = (turnN both (rangeKs 0 (k.fmod 6 - 0).toNat).length c).2.2) :
    (x, y, z) = turnN both (k.fmod 6).toNat c := by
  rw [rangeKs_length, Int.sub_zero] at h1 h2 h3
  rw [h1, h2, h3]
end
end
section
open PySem PySem.W PyProof.Rows
set_option maxRecDepth 100000
section
set_option maxHeartbeats 8000000 in
theorem shares_ok {w : World} {mean : ExcName → Option Value} {mg mb : Str → Option Value} (p : Addr) (n : Nat) (r g b top : Int) (t1 t2 t3 tt : Tok) (hr : r.natAbs < 2 ^ 40) (hg : g.natAbs < 2 ^ 40) (hb : b.natAbs < 2 ^ 40) (htop : top ≠ 0) :
   ConL 2 w mean mg mb 68 [.ref p, .int top tt] [(p, in3 n r g b t1 t2 t3)] (RetL3 (sh r top) (sh g top) (sh b top)) := by
  k_with_none
  k_with "omega" => (with_reducible assumption)
  k_with "ktr_room" => first | exact rm1 (by with_reducible assumption) (by exact rfl) | exact rm0 hd
  k_with "ktr_units" => exact rm1 (by with_reducible assumption) (by exact rfl)
  k_with "size_fits" => exact szle (by exact rfl)
  k_with "k_room" => ktr_room
  k_with "execs cons" => (k_here; (first | (with_reducible show wpAny _ _ _ _ _ (Shared.mk _ _ _ (HAdd.hAdd _ _) _)) | (with_reducible show wpAny _ _ _ _ _ (Shared.mk _ _ _ (Shared.toks _) _))); refine genTok ?_; intro tk')
  k_with "execs nil" => (k_here; (first | (with_reducible show wpAny _ _ _ _ _ (Shared.mk _ _ _ (HAdd.hAdd _ _) _)) | (with_reducible show wpAny _ _ _ _ _ (Shared.mk _ _ _ (Shared.toks _) _))); refine genTok ?_; intro tk')
  k_with "k_ne" => (refine neN ?_; (try dsimp only); first | (with_reducible assumption) | (with_reducible exact Ne.symm (by assumption)) | (with_reducible exact Nat.ne_of_lt (by assumption)) | (with_reducible exact Nat.ne_of_gt (by assumption)) | (with_reducible exact Nat.ne_of_lt (ltAll (by assumption) (by k_dflt k_mem))) | (with_reducible exact Nat.ne_of_gt (ltAll (by assumption) (by k_dflt k_mem))) | (with_reducible exact Nat.ne_of_lt (ltAllS (by assumption) (by k_dflt k_mem))) | (with_reducible exact Nat.ne_of_gt (ltAllS (by assumption) (by k_dflt k_mem))) | (with_reducible exact Nat.ne_of_gt (ltAllSS (by assumption) (by k_dflt k_mem))) | (with_reducible exact Nat.ne_of_lt (ltAllSS (by assumption) (by k_dflt k_mem))) | (with_reducible exact Nat.ne_of_gt (ltAllSSS (by assumption) (by k_dflt k_mem))) | (with_reducible exact Nat.ne_of_lt (ltAllSSS (by assumption) (by k_dflt k_mem))) | (with_reducible exact Nat.ne_of_lt (ltVia (by assumption) (by assumption) (by k_dflt k_mem))) | (with_reducible exact Nat.ne_of_gt (ltVia (by assumption) (by assumption) (by k_dflt k_mem))) | (with_reducible exact off1 (by assumption) (by k_dflt k_mem)) | (with_reducible exact Ne.symm (off1 (by assumption) (by k_dflt k_mem))) | (with_reducible exact offI (by assumption) (by k_dflt k_mem)) | (with_reducible exact offC (by assumption) (by k_dflt k_mem)) | (with_reducible exact offD (by assumption) (by k_dflt k_mem)) | (with_reducible exact Ne.symm (offI (by assumption) (by k_dflt k_mem))) | (with_reducible exact Ne.symm (offC (by assumption) (by k_dflt k_mem))) | (with_reducible exact Ne.symm (offD (by assumption) (by k_dflt k_mem))))
  k_with "k_lt" => skip
  k_with "k_all" => (with_reducible exact neAll (by assumption))
  k_with "CompEnd" => (k_dflt (refine compEnd_same (by with_reducible assumption) (by with_reducible assumption) (by with_reducible assumption) (by first | lcg_src | assumption) ?_))
  k_with "FinE" => (unfold LCg.FinE; intro D' h' tk' F' N' o1'; (try simp only [List.nil_append, List.cons_append] at N'); (try dsimp only))
  k_with "CompRest" => (with_unfolding_all first | (refine LCg.CompRest.succ ?_; intro v' I' oI' C' oC' D' m' h' tk' E' hv' hC' hx' F' N' off' ne'; lcg_open hv'; (have e1' := And.left ne'; have e2' := And.left (And.right ne'); have e3' := And.right (And.right ne'))) | refine LCg.CompRest.zero ?_)
  k_with "execs cons" => (k_here; (with_reducible show wpAny _ _ _ _ _ (Shared.mk _ _ _ (HAdd.hAdd _ 1) _)); refine genTokP ?_; intro tk' ntk')
  k_with "execs nil" => (k_here; (with_reducible show wpAny _ _ _ _ _ (Shared.mk _ _ _ (HAdd.hAdd _ 1) _)); refine genTokP ?_; intro tk' ntk')
  k_with "CompSrc" => (k_here; k_dflt (refine LCg.CompSrc.ledger (by rfl) (by k_asm) (by k_asm) (by k_mem) (by first | size_fits | exact Nat.le_of_ble_eq_true rfl) ?_; intro g'; lcg_lit))
  k_with "binaryOp Div int int" => (k_dflt (refine div_sh rfl (by omega) (by omega) (by exact rfl) ?_))
  intro dp un gd cn cs a ccd cl outer A₀ base h₀ L m s Q E B' F' X' N' T' hk hd hu hret
  have N0 := N'
  w_on
  revert X'; k_fill; intro X'
  refine wpAny_call ?_
  k_dflt (refine' code_defCG ?k1 ?k2 ?k3 ?k4 ?k5 ?kA ?kF ?kK ?k6 ?k7 ?k8 ?k9 ?kB ?kD ?_ ?c2 ?c3 ?c4; (case kA => exact rfl); (case kF => exact rfl); (case kK => assumption); (case k1 => k_asm); (case k2 => k_asm); (case k3 => k_asm); (case k4 => k_asm); (case k5 => k_asm); (case k6 => k_is); (case k7 => k_is); (case k8 => ktr_room); (case k9 => first | exact BindsTo.of_eq rfl | exact binds_K (by k_in) rfl (by k_is) rfl rfl rfl | fail "k_enter: no rule for these arguments"); (case kB => exact rfl); (case kD => decide +kernel); (case c2 => exact rfl); (case c3 => exact rfl); (case c4 => exact rfl); k_whole; intro g' L' h' tk' cells' FG' F' N' Y' B' X' T' l1 GS hL; (try k_lt l1); (have hY := CellsAre.one Y'; obtain ⟨oc0, hE', dc0⟩ := hY; subst hE'; clear Y'); (try simp only [List.cons_append, List.nil_append] at N'); (try dsimp only); (try k_lift B'); (try k_fold))
  replace F' : Fr g' L' h' (fun y => if y = Str.ofString "colour" then some (.ref p) else none) := F'
  replace dc0 : oc0.data = .cell (some (.int top tt)) := dc0
  k_steps
  all_goals first | exact retL3_use hret N0 GS (by assumption) (by assumption) (by kcj_all) (by k_mem) (by assumption) (by k_mem) (by k_all) | fail "end"
end
end
section
set_option maxRecDepth 100000
section
open PySem PySem.W PySem.Calls PyProof.Rows PyProof.Rows.LCg
section
variable {prog : Program} {w : World} {A : Around} {E : Value → Shared → Prop} {s : Shared} {h₀ : Heap} {L : Addr} {m : Str → Option Value} {env : Env}
/-- the tuple stands in the ledger -/
noncomputable abbrev TupAt (ax : Addr) (its : Array Value) (news : List (Addr × Obj)) : Prop := ∃ k, (ax, ({ cls := .type "tuple", data := .seq its k } : Obj)) ∈ news
/-- the iterable is a tuple of the call's own; each turn is told by `CompRest` -/
noncomputable def TupSrc (prog : Program) (w : World) (A : Around) (h₀ : Heap) (L : Addr) (m : Str → Option Value) (env : Env) (elt : Expr) (x : Str) (scope : Scope) (cl : List (Str × Addr)) (Fin : Shared → List Value → List (Addr × Obj) → Prop) (xv : Value) (s₁ : Shared) : Prop :=
  ∃ ax its news, xv = .ref ax ∧ A.handled = none ∧ Fr h₀ L s₁.heap m ∧ News h₀ L s₁.heap news ∧ TupAt ax its news ∧ its.size ≤ sizeLine ∧
    ∀ s₂ : Shared, (∃ h, s₂ = { s₁ with heap := h }) → CompRest prog w A h₀ L m env elt x scope cl s₂ (TupAt ax its) (fun i v => its[i]? = some v) (Fin s₂) its.size 0 [] news
theorem tupSrc {elt : Expr} {x : Str} {scope : Scope} {cl : List (Str × Addr)} {Fin : Shared → List Value → List (Addr × Obj) → Prop} {ax : Addr} {its : Array Value} {k : Nat} {news : List (Addr × Obj)} {s₁ : Shared}
    (hh : A.handled = none) (F : Fr h₀ L s₁.heap m) (N : News h₀ L s₁.heap news) (hm : (ax, ({ cls := .type "tuple", data := .seq its k } : Obj)) ∈ news) (hsz : its.size ≤ sizeLine)
    (h : ∀ g, CompRest prog w A h₀ L m env elt x scope cl { s₁ with heap := g } (TupAt ax its) (fun i v => its[i]? = some v) (Fin { s₁ with heap := g }) its.size 0 [] news) :
    TupSrc prog w A h₀ L m env elt x scope cl Fin (.ref ax) s₁ := ⟨ax, its, news, rfl, hh, F, N, ⟨k, hm⟩, hsz, fun _ ⟨g, e⟩ => e ▸ h g⟩
theorem tup_st {ax I : Addr} {its : Array Value} : ∀ i (h h' : Heap) (o : Obj) (nw : List (Addr × Obj)), (h.IsTupleIter I ax i ∧ h.IsTuple ax its) → h.get? I = some o → h'.get? I = some o → (∀ b o, h₀.get? b = some o → h'.get? b = some o) → News h₀ L h' nw → TupAt ax its nw → (h'.IsTupleIter I ax i ∧ h'.IsTuple ax its) :=
  fun _ _ _ _ _ st e e' _ N ⟨k, S⟩ => ⟨by obtain ⟨o', q, r⟩ := st.1; rw [e] at q; cases q; exact ⟨_, e', r⟩, ⟨_, (N _ S).1, rfl, k, rfl⟩⟩
theorem listComp_tup {elt iter : Expr} {x : Str} {px : Pos} {scope : Scope} {cl : List (Str × Addr)} {pos : Pos} {Q : Value → Shared → Prop} (F₀ : Fr h₀ L s.heap m)
    (hclos : closureFor scope env = pure cl) (hcell : ∀ y ∈ scope.names, y.2 ≠ .cell) (hkind : scope.kind = .function)
    (hnames : ∀ y ∈ scope.names, y.2 = .local → scope.names.lookup y.1 = some .local) (hx : scope.names.lookup x = some .local)
    (h : wpAny (model prog w) A (eval iter env) (TupSrc prog w A h₀ L m env elt x scope cl (fun s₂ => FinE h₀ L m s₂ Q)) E s)
    (hs : ∀ x, foldedSetIterable iter env x = pure x := by intro _; rfl) :
    wpAny (model prog w) A (eval (.ListComp elt [⟨.Name x px, iter, [], 0⟩] scope pos) env) Q E s := by
  rw [eval_ListComp]
  refine wpAny_comprehension_free (use := none) rfl hs hclos hkind hnames (wpAny_mono h (fun xv s₁ h₁ => ?_) fun _ _ e => e)
  obtain ⟨ax, its, news, rfl, hh, F, N, ⟨k, S⟩, hsz, R⟩ := h₁
  have hl : s₁.heap.IsTuple ax its := ⟨_, (N _ S).1, rfl, k, rfl⟩
  have hlt : ax < s₁.heap.objs.size := Heap.lt_size (N _ S).1
  refine wpAny_pyIter_tuple hl ?_
  have up : ∀ b o, s₁.heap.get? b = some o → (s₁.heap.push { cls := .type "tuple_iterator", data := .fields #[.ref ax, .int 0 0] }).get? b = some o := fun b o e => Heap.get?_push_of_some _ e
  refine block_U (Walks.tuple hh s₁.heap.objs.size ax (Nat.ne_of_lt hlt) its) hsz (fun i h st => by obtain ⟨o, e, _⟩ := st.1; exact ⟨o, e⟩) tup_st hcell hkind hx ⟨⟨_, Heap.get?_push_size _ rfl, rfl, rfl⟩, hl.push _⟩ (fun b hb => ?_)
    (F.keeps up) (N.grown up) (Nat.ne_of_lt F.ns.lt) (next_is_new F) (fun p hp => Nat.ne_of_lt (Heap.lt_size (N p hp).1)) ⟨k, S⟩ (R _ ⟨_, rfl⟩) ?_
  · show b < (s₁.heap.push _).objs.size
    rw [Heap.size_push]
    rcases List.mem_cons.mp hb with rfl | hb
    · exact Nat.lt_succ_self _
    · rw [List.mem_singleton.mp hb]; exact Nat.lt_succ_of_lt hlt
  · intro D C h' tk m' ys news' F' N' o1 hn hC₀ hD₀ hCL hDL hCD offC fin
    refine ⟨m', hn, fun h'' hs'' => fin D h'' tk (F'.change hs'' hCL hC₀) (fun p hp => ?_) o1⟩
    refine ⟨hs''.extBut _ _ ?_ (N' p hp).1, (N' p hp).2⟩
    rcases List.mem_cons.mp hp with rfl | hp
    · exact Ne.symm hCD
    · exact offC p hp
end
end
end
section
open PySem PySem.W PyProof.Rows
set_option maxRecDepth 100000
section
set_option maxHeartbeats 8000000 in
theorem is_ok {w : World} {mean : ExcName → Option Value} {mg mb : Str → Option Value} (p q : Addr) (n : Nat) (x y z : UInt64) (r g b top : Int) (t1 t2 t3 t4 t5 t6 tt : Tok) (hr : r.natAbs < 2 ^ 40) (hg : g.natAbs < 2 ^ 40) (hb : b.natAbs < 2 ^ 40) (htop : 0 < top) (htop1 : top < 2 ^ 40) (hx : Float64.isFinite (Float64.mul (Float64.mul x (Float64.ofInt top)) (Float64.ofInt 1048576)) = true) (hy : Float64.isFinite (Float64.mul (Float64.mul y (Float64.ofInt top)) (Float64.ofInt 1048576)) = true) (hz : Float64.isFinite (Float64.mul (Float64.mul z (Float64.ofInt top)) (Float64.ofInt 1048576)) = true)  :
   ConL 10 w mean mg mb 73 [.ref p, .ref q, .int top tt] [(p, tup [.float x t1, .float y t2, .float z t3]), (q, in3 n r g b t4 t5 t6)] (fun _ _ => RetBK (isF x r top && (isF y g top && isF z b top))) := by
  k_with_none
  k_with "omega" => (with_reducible assumption)
  k_with "ktr_room" => first | exact rm1 (by with_reducible assumption) (by exact rfl) | exact rm0 hd
  k_with "ktr_units" => exact rm1 (by with_reducible assumption) (by exact rfl)
  k_with "size_fits" => exact szle (by exact rfl)
  k_with "k_room" => ktr_room
  k_with "execs cons" => (k_here; (first | (with_reducible show wpAny _ _ _ _ _ (Shared.mk _ _ _ (HAdd.hAdd _ _) _)) | (with_reducible show wpAny _ _ _ _ _ (Shared.mk _ _ _ (Shared.toks _) _))); refine genTok ?_; intro tk')
  k_with "execs nil" => (k_here; (first | (with_reducible show wpAny _ _ _ _ _ (Shared.mk _ _ _ (HAdd.hAdd _ _) _)) | (with_reducible show wpAny _ _ _ _ _ (Shared.mk _ _ _ (Shared.toks _) _))); refine genTok ?_; intro tk')
  k_with "k_ne" => (refine neN ?_; (try dsimp only); first | (with_reducible assumption) | (with_reducible exact Ne.symm (by assumption)) | (with_reducible exact Nat.ne_of_lt (by assumption)) | (with_reducible exact Nat.ne_of_gt (by assumption)) | (with_reducible exact Nat.ne_of_lt (ltAll (by assumption) (by k_dflt k_mem))) | (with_reducible exact Nat.ne_of_gt (ltAll (by assumption) (by k_dflt k_mem))) | (with_reducible exact Nat.ne_of_lt (ltAllS (by assumption) (by k_dflt k_mem))) | (with_reducible exact Nat.ne_of_gt (ltAllS (by assumption) (by k_dflt k_mem))) | (with_reducible exact Nat.ne_of_gt (ltAllSS (by assumption) (by k_dflt k_mem))) | (with_reducible exact Nat.ne_of_lt (ltAllSS (by assumption) (by k_dflt k_mem))) | (with_reducible exact Nat.ne_of_gt (ltAllSSS (by assumption) (by k_dflt k_mem))) | (with_reducible exact Nat.ne_of_lt (ltAllSSS (by assumption) (by k_dflt k_mem))) | (with_reducible exact Nat.ne_of_lt (ltVia (by assumption) (by assumption) (by k_dflt k_mem))) | (with_reducible exact Nat.ne_of_gt (ltVia (by assumption) (by assumption) (by k_dflt k_mem))) | (with_reducible exact off1 (by assumption) (by k_dflt k_mem)) | (with_reducible exact Ne.symm (off1 (by assumption) (by k_dflt k_mem))) | (with_reducible exact offI (by assumption) (by k_dflt k_mem)) | (with_reducible exact offC (by assumption) (by k_dflt k_mem)) | (with_reducible exact offD (by assumption) (by k_dflt k_mem)) | (with_reducible exact Ne.symm (offI (by assumption) (by k_dflt k_mem))) | (with_reducible exact Ne.symm (offC (by assumption) (by k_dflt k_mem))) | (with_reducible exact Ne.symm (offD (by assumption) (by k_dflt k_mem))))
  k_with "k_lt" => skip
  k_with "k_all" => (with_reducible exact neAll (by assumption))
  k_with "CompEnd" => (k_dflt (refine compEnd_same (by with_reducible assumption) (by with_reducible assumption) (by with_reducible assumption) (by first | lcg_src | assumption) ?_))
  k_with "FinE" => (unfold LCg.FinE; intro D' h' tk' F' N' o1'; (try simp only [List.nil_append, List.cons_append] at N'); (try dsimp only))
  k_with "CompRest" => (with_unfolding_all first | (refine LCg.CompRest.succ ?_; intro v' I' oI' C' oC' D' m' h' tk' E' hv' hC' hx' F' N' off' ne'; lcg_open hv'; (have e1' := And.left ne'; have e2' := And.left (And.right ne'); have e3' := And.right (And.right ne'))) | refine LCg.CompRest.zero ?_)
  k_with "execs cons" => (k_here; (with_reducible show wpAny _ _ _ _ _ (Shared.mk _ _ _ (HAdd.hAdd _ 1) _)); refine genTokP ?_; intro tk' ntk')
  k_with "execs nil" => (k_here; (with_reducible show wpAny _ _ _ _ _ (Shared.mk _ _ _ (HAdd.hAdd _ 1) _)); refine genTokP ?_; intro tk' ntk')
  k_with "CompSrc" => (k_here; k_dflt (refine LCg.CompSrc.ledger (by rfl) (by k_asm) (by k_asm) (by k_mem) (by first | size_fits | exact Nat.le_of_ble_eq_true rfl) ?_; intro g'; lcg_lit))
  k_with "eval ListComp" => (k_here; (with_reducible show wpAny _ _ (eval (Expr.ListComp _ [Comprehension.mk _ (Expr.Name (Str.ofString "triple") _) _ _] _ _) _) _ _ _); k_dflt (refine listComp_tup (F₀ := by k_asm) (by rfl) (by decide) (by rfl) (by decide) (by rfl) ?_))
  k_with "TupSrc" => (k_here; k_dflt (refine tupSrc (by rfl) (by k_asm) (by k_asm) (by k_mem) (by exact Nat.le_of_ble_eq_true rfl) ?_); intro g'; lcg_lit)
  k_with "CompEnd" => ((rename News _ _ _ _ => N9); (try dsimp only at N9); k_dflt (refine compEnd_same (by assumption) (by assumption) (by assumption) (by first | lcg_src | assumption | exact ⟨_, by k_mem⟩) ?_))
  k_with "compareOp Eq ref ref" => (k_here; (with_reducible show wpAny _ _ (compareOp CmpOp.Eq (Value.ref _) (Value.ref _)) _ _ _); k_dflt (refine eq_intsK (by exact News.isList (by k_asm) (by k_mem)) (IntsAre.cons _ _ (IntsAre.cons _ _ (IntsAre.cons _ _ IntsAre.nil))) (by exact News.isList (by k_asm) (by k_mem)) (IntsAre.cons _ _ (IntsAre.cons _ _ (IntsAre.cons _ _ IntsAre.nil))) (by ktr_units) ?_))
  intro dp un gd cn cs a ccd cl outer A₀ base h₀ L m s Q E B' F' X' N' T' hk hd hu hret
  have N0 := N'
  w_on
  revert X'; k_fill; intro X'
  refine wpAny_call ?_
  k_dflt (refine' code_defCG ?k1 ?k2 ?k3 ?k4 ?k5 ?kA ?kF ?kK ?k6 ?k7 ?k8 ?k9 ?kB ?kD ?_ ?c2 ?c3 ?c4; (case kA => exact rfl); (case kF => exact rfl); (case kK => assumption); (case k1 => k_asm); (case k2 => k_asm); (case k3 => k_asm); (case k4 => k_asm); (case k5 => k_asm); (case k6 => k_is); (case k7 => k_is); (case k8 => ktr_room); (case k9 => first | exact BindsTo.of_eq rfl | exact binds_K (by k_in) rfl (by k_is) rfl rfl rfl | fail "k_enter: no rule for these arguments"); (case kB => exact rfl); (case kD => decide +kernel); (case c2 => exact rfl); (case c3 => exact rfl); (case c4 => exact rfl); k_whole; intro g' L' h' tk' cells' FG' F' N' Y' B' X' T' l1 GS hL; (try k_lt l1); (have hY := CellsAre.one Y'; obtain ⟨oc0, hE', dc0⟩ := hY; subst hE'; clear Y'); (try simp only [List.cons_append, List.nil_append] at N'); (try dsimp only); (try k_lift B'); (try k_fold))
  replace F' : Fr g' L' h' (fun y => if y = Str.ofString "colour" then some (.ref q) else if y = Str.ofString "triple" then some (.ref p) else none) := F'
  replace dc0 : oc0.data = .cell (some (.int top tt)) := dc0
  k_steps
  all_goals exact retBK_use hret N0 GS (by assumption) (by exact cb_drop (by assumption) (by kcj_all)) (eq3_dec _ _ _ _ _ _)
end
end
section
open PySem PySem.W PyProof.Rows
set_option maxRecDepth 100000
section
set_option maxHeartbeats 8000000 in
theorem seen_ok {w : World} {mean : ExcName → Option Value} {mg mb : Str → Option Value} (p : Addr) (n : Nat) (r g b : Int) (t1 t2 t3 : Tok) (mir : Int) (tm : Tok) :
   ConL 3 w mean mg mb 87 [.ref p, .int mir tm] [(p, in3 n r g b t1 t2 t3)] (RetI3 r (if mir = 0 then g else b) (if mir = 0 then b else g)) := by
  k_with_none
  k_with "omega" => (with_reducible assumption)
  k_with "ktr_room" => first | exact rm1 (by with_reducible assumption) (by exact rfl) | exact rm0 hd
  k_with "ktr_units" => exact rm1 (by with_reducible assumption) (by exact rfl)
  k_with "size_fits" => exact szle (by exact rfl)
  k_with "k_room" => ktr_room
  k_with "k_ne" => (refine neN ?_; (try dsimp only); first | (with_reducible assumption) | (with_reducible exact Ne.symm (by assumption)) | (with_reducible exact Nat.ne_of_lt (by assumption)) | (with_reducible exact Nat.ne_of_gt (by assumption)) | (with_reducible exact Nat.ne_of_lt (ltAll (by assumption) (by k_dflt k_mem))) | (with_reducible exact Nat.ne_of_gt (ltAll (by assumption) (by k_dflt k_mem))) | (with_reducible exact Nat.ne_of_lt (ltAllS (by assumption) (by k_dflt k_mem))) | (with_reducible exact Nat.ne_of_gt (ltAllS (by assumption) (by k_dflt k_mem))) | (with_reducible exact Nat.ne_of_gt (ltAllSS (by assumption) (by k_dflt k_mem))) | (with_reducible exact Nat.ne_of_lt (ltAllSS (by assumption) (by k_dflt k_mem))) | (with_reducible exact Nat.ne_of_gt (ltAllSSS (by assumption) (by k_dflt k_mem))) | (with_reducible exact Nat.ne_of_lt (ltAllSSS (by assumption) (by k_dflt k_mem))) | (with_reducible exact Nat.ne_of_lt (ltVia (by assumption) (by assumption) (by k_dflt k_mem))) | (with_reducible exact Nat.ne_of_gt (ltVia (by assumption) (by assumption) (by k_dflt k_mem))) | (with_reducible exact off1 (by assumption) (by k_dflt k_mem)) | (with_reducible exact Ne.symm (off1 (by assumption) (by k_dflt k_mem))) | (with_reducible exact offI (by assumption) (by k_dflt k_mem)) | (with_reducible exact offC (by assumption) (by k_dflt k_mem)) | (with_reducible exact offD (by assumption) (by k_dflt k_mem)) | (with_reducible exact Ne.symm (offI (by assumption) (by k_dflt k_mem))) | (with_reducible exact Ne.symm (offC (by assumption) (by k_dflt k_mem))) | (with_reducible exact Ne.symm (offD (by assumption) (by k_dflt k_mem))))
  k_with "k_lt" => skip
  k_with "k_all" => (with_reducible exact neAll (by assumption))
  k_with "execs cons" => (k_here; (with_reducible show wpAny _ _ _ _ _ (Shared.mk _ _ _ (HAdd.hAdd _ _) _)); refine genTok ?_; intro tk')
  k_with "execs nil" => (k_here; (with_reducible show wpAny _ _ _ _ _ (Shared.mk _ _ _ (HAdd.hAdd _ _) _)); refine genTok ?_; intro tk')
  k_with "execs cons" => (k_here; (rename News _ _ _ _ => N9); dsimp only at N9; walk_at "execs cons")
  k_with "execs cons" => (k_here; (rename Fr _ _ _ _ => F9); dsimp only at F9; walk_at "execs cons")
  intro dp un gd cn cs a ccd cl outer A₀ base h₀ L m s Q E B' F' X' N' T' hk hd hu hret
  have N0 := N'
  w_on
  revert X'; k_fill; intro X'
  refine wpAny_call ?_
  k_dflt (refine' code_defCG ?k1 ?k2 ?k3 ?k4 ?k5 ?kA ?kF ?kK ?k6 ?k7 ?k8 ?k9 ?kB ?kD ?_ ?c2 ?c3 ?c4; (case kA => exact rfl); (case kF => exact rfl); (case kK => assumption); (case k1 => k_asm); (case k2 => k_asm); (case k3 => k_asm); (case k4 => k_asm); (case k5 => k_asm); (case k6 => k_is); (case k7 => k_is); (case k8 => ktr_room); (case k9 => first | exact BindsTo.of_eq rfl | exact binds_K (by k_in) rfl (by k_is) rfl rfl rfl | fail "k_enter: no rule for these arguments"); (case kB => exact rfl); (case kD => decide +kernel); (case c2 => exact rfl); (case c3 => exact rfl); (case c4 => exact rfl); k_whole; intro g' L' h' tk' cells' FG' F' N' Y' B' X' T' l1 GS hL; (try k_lt l1); (have hE' := cells_nil Y'; subst hE'; clear Y'); (try simp only [List.cons_append, List.nil_append] at N'); (try dsimp only); (try k_lift B'); (try k_fold))
  replace F' : Fr g' L' h' (fun y => if y = Str.ofString "mirrored" then some (.int mir tm) else if y = Str.ofString "colour" then some (.ref p) else none) := F'
  k_steps
  all_goals (first | (rw [if_neg (show ¬ mir = 0 by assumption), if_neg (show ¬ mir = 0 by assumption)] at hret; exact retI3_use hret N0 GS (by assumption) (by assumption) (by kcj_all) (by k_mem) (by assumption) (by k_mem) (by k_all)) | (rw [if_pos (show mir = 0 by assumption), if_pos (show mir = 0 by assumption)] at hret; exact retI3_use hret N0 GS (by assumption) (by assumption) (by kcj_all) (by k_mem) (by assumption) (by k_mem) (by k_all)) | trace_state)
end
end
section
open PySem PySem.W PyProof.Rows
set_option maxRecDepth 100000
section
set_option maxHeartbeats 8000000 in
theorem turned_ok {w : World} {mean : ExcName → Option Value} {mg mb : Str → Option Value} (p : Addr) (n : Nat) (r g b : Int) (t1 t2 t3 : Tok) (k : Int) (tk : Tok) (both : Int) (hb : ∀ M m : Int, (M = r ∨ M = g ∨ M = b) → (r ≤ M ∧ g ≤ M ∧ b ≤ M) → (m = r ∨ m = g ∨ m = b) → (m ≤ r ∧ m ≤ g ∧ m ≤ b) → M + m = both) :
   ConL 3 w mean mg mb 80 [.ref p, .int k tk] [(p, in3 n r g b t1 t2 t3)] (fun h₀ L s Q => ∀ x y z, (x, y, z) = turnN both (k.fmod 6).toNat (r, g, b) → RetI3 x y z h₀ L s Q) := by
  k_with_none
  k_with "omega" => (with_reducible assumption)
  k_with "ktr_room" => first | exact rm1 (by with_reducible assumption) (by exact rfl) | exact rm0 hd
  k_with "ktr_units" => exact rm1 (by with_reducible assumption) (by exact rfl)
  k_with "size_fits" => exact szle (by exact rfl)
  k_with "k_room" => ktr_room
  k_with "k_ne" => (refine neN ?_; (try dsimp only); first | (with_reducible assumption) | (with_reducible exact Ne.symm (by assumption)) | (with_reducible exact Nat.ne_of_lt (by assumption)) | (with_reducible exact Nat.ne_of_gt (by assumption)) | (with_reducible exact Nat.ne_of_lt (ltAll (by assumption) (by k_dflt k_mem))) | (with_reducible exact Nat.ne_of_gt (ltAll (by assumption) (by k_dflt k_mem))) | (with_reducible exact Nat.ne_of_lt (ltAllS (by assumption) (by k_dflt k_mem))) | (with_reducible exact Nat.ne_of_gt (ltAllS (by assumption) (by k_dflt k_mem))) | (with_reducible exact Nat.ne_of_gt (ltAllSS (by assumption) (by k_dflt k_mem))) | (with_reducible exact Nat.ne_of_lt (ltAllSS (by assumption) (by k_dflt k_mem))) | (with_reducible exact Nat.ne_of_gt (ltAllSSS (by assumption) (by k_dflt k_mem))) | (with_reducible exact Nat.ne_of_lt (ltAllSSS (by assumption) (by k_dflt k_mem))) | (with_reducible exact Nat.ne_of_lt (ltVia (by assumption) (by assumption) (by k_dflt k_mem))) | (with_reducible exact Nat.ne_of_gt (ltVia (by assumption) (by assumption) (by k_dflt k_mem))) | (with_reducible exact off1 (by assumption) (by k_dflt k_mem)) | (with_reducible exact Ne.symm (off1 (by assumption) (by k_dflt k_mem))) | (with_reducible exact offI (by assumption) (by k_dflt k_mem)) | (with_reducible exact offC (by assumption) (by k_dflt k_mem)) | (with_reducible exact offD (by assumption) (by k_dflt k_mem)) | (with_reducible exact Ne.symm (offI (by assumption) (by k_dflt k_mem))) | (with_reducible exact Ne.symm (offC (by assumption) (by k_dflt k_mem))) | (with_reducible exact Ne.symm (offD (by assumption) (by k_dflt k_mem))))
  k_with "k_lt" => skip
  k_with "k_all" => (with_reducible exact neAll (by assumption))
  k_with "execs cons" => (k_here; (with_reducible show wpAny _ _ _ _ _ (Shared.mk _ _ _ (HAdd.hAdd _ _) _)); refine genTok ?_; intro tk')
  k_with "execs nil" => (k_here; (with_reducible show wpAny _ _ _ _ _ (Shared.mk _ _ _ (HAdd.hAdd _ _) _)); refine genTok ?_; intro tk')
  k_with "execs cons" => (k_here; (rename News _ _ _ _ => N9); dsimp only at N9; walk_at "execs cons")
  k_with "execs cons" => (k_here; (rename Fr _ _ _ _ => F9); dsimp only at F9; walk_at "execs cons")
  k_with "pyIter ref" => k_state (fun pre x y z => x = (turnN both pre.length (r, g, b)).1 ∧ y = (turnN both pre.length (r, g, b)).2.1 ∧ z = (turnN both pre.length (r, g, b)).2.2) "red" "green" "blue"
  k_with "state" => (first | exact ⟨rfl, rfl, rfl⟩ | exact turn_step (hb _ _ (by assumption) (by assumption) (by assumption) (by assumption)) (by assumption) (by assumption) (by assumption))
  intro dp un gd cn cs a ccd cl outer A₀ base h₀ L m s Q E B' F' X' N' T' hk hd hu hret
  have N0 := N'
  w_on
  revert X'; k_fill; intro X'
  refine wpAny_call ?_
  k_dflt (refine' code_defCG ?k1 ?k2 ?k3 ?k4 ?k5 ?kA ?kF ?kK ?k6 ?k7 ?k8 ?k9 ?kB ?kD ?_ ?c2 ?c3 ?c4; (case kA => exact rfl); (case kF => exact rfl); (case kK => assumption); (case k1 => k_asm); (case k2 => k_asm); (case k3 => k_asm); (case k4 => k_asm); (case k5 => k_asm); (case k6 => k_is); (case k7 => k_is); (case k8 => ktr_room); (case k9 => first | exact BindsTo.of_eq rfl | exact binds_K (by k_in) rfl (by k_is) rfl rfl rfl | fail "k_enter: no rule for these arguments"); (case kB => exact rfl); (case kD => decide +kernel); (case c2 => exact rfl); (case c3 => exact rfl); (case c4 => exact rfl); k_whole; intro g' L' h' tk' cells' FG' F' N' Y' B' X' T' l1 GS hL; (try k_lt l1); (have hE' := cells_nil Y'; subst hE'; clear Y'); (try simp only [List.cons_append, List.nil_append] at N'); (try dsimp only); (try k_lift B'); (try k_fold))
  replace F' : Fr g' L' h' (fun y => if y = Str.ofString "sixths" then some (.int k tk) else if y = Str.ofString "colour" then some (.ref p) else none) := F'
  k_steps
  all_goals exact retI3_use (hret _ _ _ (turn_end (by assumption) (by assumption) (by assumption))) N0 GS (by assumption) (by assumption) (by kcj_all) (by k_mem) (by assumption) (by k_mem) (by k_all)
end
end
section
set_option maxRecDepth 100000
section
open PySem PySem.W PySem.Calls PyProof.Rows
section
variable {w : World} {mean : ExcName → Option Value} {mg mb : Str → Option Value} {dp un : Nat} {gd : Option (List Code)} {cn : Str} {cs : Scope} {a : Addr} {ccd : Value} {cl : List (Str × Addr)} {outer : List Env} {A₀ : Around} {base h₀ : Heap} {L : Addr} {m : Str → Option Value} {s : Shared} {Q E : Value → Shared → Prop} {news small : List (Addr × Obj)} {k : Nat} {f : Addr} {vs : List Value}
theorem fresh_ne {h h₀ : Heap} {L p : Addr} {news : List (Addr × Obj)} (N : News h₀ L h news) (fr : h.get? p = none) : ∀ q ∈ news, q.1 ≠ p := fun q hq e => by
  have := (N q hq).1; rw [e, fr] at this; cases this
theorem neqAll {l : List (Addr × Obj)} {a b : Addr} {o : Obj} (h : ∀ q ∈ l, q.1 ≠ b) (m : (a, o) ∈ l) : a ≠ b := h _ m
theorem conL_i3 {x y z : Int} (C : ConL k w mean mg mb f vs small (RetI3 x y z)) (F' : Fr h₀ L s.heap m) (N' : News h₀ L s.heap news) (sub : ∀ q ∈ small, q ∈ news)
    (B' : Below A₀ base outer h₀) (X' : (H.hd02.heap_39 w.params).In h₀) (T' : Top topProg loose1 mean mg mb h₀) (hk : cs.kind = .function) (hd : dp + k < recursionLimit) (hu : un + 8 * k < cLine)
    (hret : ∀ (p : Addr) (n : Nat) (t1 t2 t3 : Tok) (h' : Heap) (tk' : Nat), Fr h₀ L h' m → News h₀ L h' ((p, in3 n x y z t1 t2 t3) :: news) → (∀ q ∈ news, q.1 ≠ p) → Q (.ref p) { s with heap := h', toks := tk' }) :
    wpAny (model Challenge.rw_mj0002_02.row.prog w) (ktrTop dp un gd cn cs L a ccd cl outer) (call (.ref f) vs) Q E s :=
  C dp un gd cn cs a ccd cl outer A₀ base h₀ L m s Q E B' F' X' (fun q hq => N' q (sub q hq)) T' hk hd hu fun p n t1 t2 t3 h' tk' kp fr N1 => hret p n t1 t2 t3 h' tk' (F'.keeps kp) (fun q hq => by
    rcases List.mem_cons.mp hq with rfl | hq
    · exact N1 _ (List.mem_cons_self ..)
    · exact N'.grown kp q hq) (fresh_ne N' fr)
theorem conL_l3 {x y z : UInt64} (C : ConL k w mean mg mb f vs small (RetL3 x y z)) (F' : Fr h₀ L s.heap m) (N' : News h₀ L s.heap news) (sub : ∀ q ∈ small, q ∈ news)
    (B' : Below A₀ base outer h₀) (X' : (H.hd02.heap_39 w.params).In h₀) (T' : Top topProg loose1 mean mg mb h₀) (hk : cs.kind = .function) (hd : dp + k < recursionLimit) (hu : un + 8 * k < cLine)
    (hret : ∀ (p : Addr) (t1 t2 t3 : Tok) (h' : Heap) (tk' : Nat), Fr h₀ L h' m → News h₀ L h' ((p, fl3 x y z t1 t2 t3) :: news) → (∀ q ∈ news, q.1 ≠ p) → Q (.ref p) { s with heap := h', toks := tk' }) :
    wpAny (model Challenge.rw_mj0002_02.row.prog w) (ktrTop dp un gd cn cs L a ccd cl outer) (call (.ref f) vs) Q E s :=
  C dp un gd cn cs a ccd cl outer A₀ base h₀ L m s Q E B' F' X' (fun q hq => N' q (sub q hq)) T' hk hd hu fun p t1 t2 t3 h' tk' kp fr N1 => hret p t1 t2 t3 h' tk' (F'.keeps kp) (fun q hq => by
    rcases List.mem_cons.mp hq with rfl | hq
    · exact N1 _ (List.mem_cons_self ..)
    · exact N'.grown kp q hq) (fresh_ne N' fr)
theorem conL_b {b : Bool} (C : ConL k w mean mg mb f vs small (fun _ _ => RetBK b)) (F' : Fr h₀ L s.heap m) (N' : News h₀ L s.heap news) (sub : ∀ q ∈ small, q ∈ news)
    (B' : Below A₀ base outer h₀) (X' : (H.hd02.heap_39 w.params).In h₀) (T' : Top topProg loose1 mean mg mb h₀) (hk : cs.kind = .function) (hd : dp + k < recursionLimit) (hu : un + 8 * k < cLine)
    (hret : ∀ (h' : Heap) (tk' : Nat), Fr h₀ L h' m → News h₀ L h' news → Q (.bool b) { s with heap := h', toks := tk' }) :
    wpAny (model Challenge.rw_mj0002_02.row.prog w) (ktrTop dp un gd cn cs L a ccd cl outer) (call (.ref f) vs) Q E s :=
  C dp un gd cn cs a ccd cl outer A₀ base h₀ L m s Q E B' F' X' (fun q hq => N' q (sub q hq)) T' hk hd hu fun h' tk' kp => hret h' tk' (F'.keeps kp) (N'.grown kp)
/-- the walk's words: what is called, with letters for what comes back -/
theorem shares_w {p : Addr} {n : Nat} {r g b top : Int} {t1 t2 t3 tt : Tok} {R G B : UInt64} (F' : Fr h₀ L s.heap m) (N' : News h₀ L s.heap news) (m1 : (p, in3 n r g b t1 t2 t3) ∈ news) (e1 : sh r top = R) (e2 : sh g top = G) (e3 : sh b top = B) (hr : r.natAbs < 2 ^ 40) (hg : g.natAbs < 2 ^ 40) (hb : b.natAbs < 2 ^ 40) (htop : top ≠ 0)
    (B' : Below A₀ base outer h₀) (X' : (H.hd02.heap_39 w.params).In h₀) (T' : Top topProg loose1 mean mg mb h₀) (hk : cs.kind = .function) (hd : dp + 2 < recursionLimit) (hu : un + 8 * 2 < cLine)
    (hret : ∀ (p' : Addr) (t1 t2 t3 : Tok) (h' : Heap) (tk' : Nat), Fr h₀ L h' m → News h₀ L h' ((p', fl3 R G B t1 t2 t3) :: news) → (∀ q ∈ news, q.1 ≠ p') → Q (.ref p') { s with heap := h', toks := tk' }) :
    wpAny (model Challenge.rw_mj0002_02.row.prog w) (ktrTop dp un gd cn cs L a ccd cl outer) (call (.ref 68) [.ref p, .int top tt]) Q E s := by
  subst e1 e2 e3
  exact conL_l3 (shares_ok p n r g b top t1 t2 t3 tt hr hg hb htop) F' N' (fun q hq => by rw [List.mem_singleton.mp hq]; exact m1) B' X' T' hk hd hu hret
theorem is_w {p q : Addr} {n : Nat} {x y z : UInt64} {r g b top : Int} {t1 t2 t3 t4 t5 t6 tt : Tok} (F' : Fr h₀ L s.heap m) (N' : News h₀ L s.heap news) (m1 : (p, tup [.float x t1, .float y t2, .float z t3]) ∈ news) (m2 : (q, in3 n r g b t4 t5 t6) ∈ news) (i1 : Is x r top) (i2 : Is y g top) (i3 : Is z b top)
    (hr : r.natAbs < 2 ^ 40) (hg : g.natAbs < 2 ^ 40) (hb : b.natAbs < 2 ^ 40) (htop : 0 < top) (htop1 : top < 2 ^ 40)
    (B' : Below A₀ base outer h₀) (X' : (H.hd02.heap_39 w.params).In h₀) (T' : Top topProg loose1 mean mg mb h₀) (hk : cs.kind = .function) (hd : dp + 10 < recursionLimit) (hu : un + 8 * 10 < cLine)
    (hret : ∀ (h' : Heap) (tk' : Nat), Fr h₀ L h' m → News h₀ L h' news → Q (.bool true) { s with heap := h', toks := tk' }) :
    wpAny (model Challenge.rw_mj0002_02.row.prog w) (ktrTop dp un gd cn cs L a ccd cl outer) (call (.ref 73) [.ref p, .ref q, .int top tt]) Q E s := by
  have C := is_ok (w := w) (mean := mean) (mg := mg) (mb := mb) p q n x y z r g b top t1 t2 t3 t4 t5 t6 tt hr hg hb htop htop1 i1.fin i2.fin i3.fin
  rw [i1.is, i2.is, i3.is] at C
  exact conL_b C F' N' (fun q hq => by
    rcases List.mem_cons.mp hq with rfl | hq
    · exact m1
    · rw [List.mem_singleton.mp hq]; exact m2) B' X' T' hk hd hu hret
theorem seen_w {p : Addr} {n : Nat} {r g b mir x y : Int} {t1 t2 t3 tm : Tok} (F' : Fr h₀ L s.heap m) (N' : News h₀ L s.heap news) (m1 : (p, in3 n r g b t1 t2 t3) ∈ news) (e1 : (if mir = 0 then g else b) = x) (e2 : (if mir = 0 then b else g) = y)
    (B' : Below A₀ base outer h₀) (X' : (H.hd02.heap_39 w.params).In h₀) (T' : Top topProg loose1 mean mg mb h₀) (hk : cs.kind = .function) (hd : dp + 3 < recursionLimit) (hu : un + 8 * 3 < cLine)
    (hret : ∀ (p' : Addr) (n : Nat) (t1 t2 t3 : Tok) (h' : Heap) (tk' : Nat), Fr h₀ L h' m → News h₀ L h' ((p', in3 n r x y t1 t2 t3) :: news) → (∀ q ∈ news, q.1 ≠ p') → Q (.ref p') { s with heap := h', toks := tk' }) :
    wpAny (model Challenge.rw_mj0002_02.row.prog w) (ktrTop dp un gd cn cs L a ccd cl outer) (call (.ref 87) [.ref p, .int mir tm]) Q E s := by
  subst e1 e2
  exact conL_i3 (seen_ok p n r g b t1 t2 t3 mir tm) F' N' (fun q hq => by rw [List.mem_singleton.mp hq]; exact m1) B' X' T' hk hd hu hret
theorem turned_w {p : Addr} {n : Nat} {r g b k both x y z : Int} {t1 t2 t3 tk : Tok} (F' : Fr h₀ L s.heap m) (N' : News h₀ L s.heap news) (m1 : (p, in3 n r g b t1 t2 t3) ∈ news) (e : turnN both (k.fmod 6).toNat (r, g, b) = (x, y, z))
    (hb : ∀ M m : Int, (M = r ∨ M = g ∨ M = b) → (r ≤ M ∧ g ≤ M ∧ b ≤ M) → (m = r ∨ m = g ∨ m = b) → (m ≤ r ∧ m ≤ g ∧ m ≤ b) → M + m = both)
    (B' : Below A₀ base outer h₀) (X' : (H.hd02.heap_39 w.params).In h₀) (T' : Top topProg loose1 mean mg mb h₀) (hk : cs.kind = .function) (hd : dp + 3 < recursionLimit) (hu : un + 8 * 3 < cLine)
    (hret : ∀ (p' : Addr) (n : Nat) (t1 t2 t3 : Tok) (h' : Heap) (tk' : Nat), Fr h₀ L h' m → News h₀ L h' ((p', in3 n x y z t1 t2 t3) :: news) → (∀ q ∈ news, q.1 ≠ p') → Q (.ref p') { s with heap := h', toks := tk' }) :
    wpAny (model Challenge.rw_mj0002_02.row.prog w) (ktrTop dp un gd cn cs L a ccd cl outer) (call (.ref 80) [.ref p, .int k tk]) Q E s := by
  have C : ConL 3 w mean mg mb 80 [.ref p, .int k tk] [(p, in3 n r g b t1 t2 t3)] (RetI3 x y z) := fun dp un gd cn cs a ccd cl outer A₀ base h₀ L m s Q E B F X N T hk hd hu hret =>
    turned_ok p n r g b t1 t2 t3 k tk both hb dp un gd cn cs a ccd cl outer A₀ base h₀ L m s Q E B F X N T hk hd hu fun x' y' z' h => by
      rw [e] at h; cases h; exact hret
  exact conL_i3 C F' N' (fun q hq => by rw [List.mem_singleton.mp hq]; exact m1) B' X' T' hk hd hu hret
/-- hands back (True, the told colour, its depth) -/
noncomputable abbrev RetS (x y z top' : Int) (h₀ : Heap) (L : Addr) (s : Shared) (Q : Value → Shared → Prop) : Prop :=
  ∀ (q p : Addr) (n k : Nat) (t1 t2 t3 tt : Tok) (h' : Heap) (tk' : Nat), Keep s.heap h' → s.heap.get? p = none → s.heap.get? q = none → p ≠ q → News h₀ L h' [(q, ({ cls := .type "tuple", data := .seq #[.bool true, .ref p, .int top' tt] k } : Obj)), (p, in3 n x y z t1 t2 t3)] → Q (.ref q) { s with heap := h', toks := tk' }
theorem retS_use {x y z top' : Int} {g h' : Heap} {L' : Addr} {m' : Str → Option Value} {all all' : List (Addr × Obj)} {tk' : Nat} {q p : Addr} {n k : Nat} {t1 t2 t3 tt : Tok}
    (hret : RetS x y z top' h₀ L s Q) (N0 : News h₀ L s.heap small) (GS : GSub s.heap g (small.map (·.1))) (F' : Fr g L' h' m') (kN : News h₀ L h' all) (sub : ∀ q ∈ small, q ∈ all)
    (hq : (q, ({ cls := .type "tuple", data := .seq #[.bool true, .ref p, .int top' tt] k } : Obj)) ∈ all) (hp : (p, in3 n x y z t1 t2 t3) ∈ all) (N' : News g L' h' all') (hq' : (q, ({ cls := .type "tuple", data := .seq #[.bool true, .ref p, .int top' tt] k } : Obj)) ∈ all') (hp' : (p, in3 n x y z t1 t2 t3) ∈ all')
    (offq : ∀ e ∈ small, e.1 ≠ q) (offp : ∀ e ∈ small, e.1 ≠ p) (ne : p ≠ q) : Q (.ref q) { s with heap := h', toks := tk' } :=
  hret q p n k t1 t2 t3 tt h' tk' (keep_of N0 GS F' fun e he => kN e (sub e he)) (fresh_heap GS (N' _ hp').2.2 offp) (fresh_heap GS (N' _ hq').2.2 offq) ne fun e he => by
    rcases List.mem_cons.mp he with rfl | he
    · exact kN _ hq
    · rw [List.mem_singleton.mp he]; exact kN _ hp
end
end
end
section
section
theorem fm_b (a : Int) {n : Int} (hn : 0 < n) : 0 ≤ a.fmod n ∧ a.fmod n < n := ⟨Int.fmod_nonneg_of_pos a hn, Int.fmod_lt_of_pos a hn⟩
theorem fm2 (a : Int) : a.fmod 2 = 0 ∨ a.fmod 2 = 1 := by
  have := fm_b a (n := 2) (by decide); omega
end
end
section
set_option maxRecDepth 100000
section
open PySem PySem.W PySem.Calls PyProof.Rows
/-- hands back (True, a colour, its depth) -/
noncomputable abbrev StepRet (h₀ : Heap) (L : Addr) (s : Shared) (Q : Value → Shared → Prop) : Prop :=
  ∀ x y z top' : Int, (0 ≤ x ∧ x ≤ top') → (0 ≤ y ∧ y ≤ top') → (0 ≤ z ∧ z ≤ top') → 0 < top' → top' ≤ 16384 → RetS x y z top' h₀ L s Q
/-- a step of the law -/
noncomputable def StepC (w : World) (mean : ExcName → Option Value) (mg mb : Str → Option Value) (f : Addr) : Prop :=
  ∀ (p : Addr) (n : Nat) (r g b top rest : Int) (t1 t2 t3 tt tr : Tok), (0 ≤ r ∧ r ≤ top) → (0 ≤ g ∧ g ≤ top) → (0 ≤ b ∧ b ≤ top) → 0 < top → top ≤ 4096 →
    ConL 16 w mean mg mb f [.ref p, .int top tt, .int rest tr] [(p, in3 n r g b t1 t2 t3)] StepRet
theorem step_of {w : World} {mean : ExcName → Option Value} {mg mb : Str → Option Value} {f : Addr} {vs : List Value} {small : List (Addr × Obj)} {x y z top' : Int} (hx : 0 ≤ x ∧ x ≤ top') (hy : 0 ≤ y ∧ y ≤ top') (hz : 0 ≤ z ∧ z ≤ top') (h0 : 0 < top') (h1 : top' ≤ 16384)
    (h : ConL 16 w mean mg mb f vs small (RetS x y z top')) : ConL 16 w mean mg mb f vs small StepRet :=
  fun dp un gd cn cs a ccd cl outer A₀ base h₀ L m s Q E B F X N T hk hd hu hret => h dp un gd cn cs a ccd cl outer A₀ base h₀ L m s Q E B F X N T hk hd hu (hret x y z top' hx hy hz h0 h1)
end
end
section
set_option maxRecDepth 100000
section
open PySem PySem.W PySem.Calls PyProof.Rows
/-- the loop of the walk: what holds at each turn's start -/
noncomputable def WalkJ (c st p₀ : Addr) (cap : Nat) (o₀ : Obj) (m : Str → Option Value) (nx : List (Addr × Obj)) : Prop :=
  ∃ (p : Addr) (n : Nat) (r g b top : Int) (t1 t2 t3 tt : Tok) (oc : Obj), (0 ≤ r ∧ r ≤ top) ∧ (0 ≤ g ∧ g ≤ top) ∧ (0 ≤ b ∧ b ≤ top) ∧ 0 < top ∧ top ≤ 4096 ∧ m (Str.ofString "colour") = some (.ref p) ∧ m (Str.ofString "steps") = some (.ref st) ∧
    oc.data = .cell (some (.int top tt)) ∧ nx = [(p, in3 n r g b t1 t2 t3), (st, listOf #[.ref 94, .ref 99, .ref 104, .ref 109, .ref 114] cap), (c, oc), (p₀, o₀)] ∧ (@Ne Nat p st) ∧ (@Ne Nat p c)
theorem fr_named {h₀ h : Heap} {L : Addr} {x : Str} {v : Value} {p st : Addr} {m : Str → Option Value} (F : Fr h₀ L h (fun y => if y = x then some v else m y)) (h1 : m (Str.ofString "colour") = some (.ref p)) (h2 : m (Str.ofString "steps") = some (.ref st)) :
    Fr h₀ L h (fun y => if y = x then some v else if y = Str.ofString "colour" then some (.ref p) else if y = Str.ofString "steps" then some (.ref st) else m y) := by
  have : (fun y => if y = x then some v else if y = Str.ofString "colour" then some (.ref p) else if y = Str.ofString "steps" then some (.ref st) else m y) = (fun y => if y = x then some v else m y) := by
    funext y
    by_cases e1 : y = x
    · rw [if_pos e1, if_pos e1]
    · rw [if_neg e1, if_neg e1]
      by_cases e2 : y = Str.ofString "colour"
      · rw [if_pos e2, e2, h1]
      · rw [if_neg e2]
        by_cases e3 : y = Str.ofString "steps"
        · rw [if_pos e3, e3, h2]
        · rw [if_neg e3]
  rw [this]; exact F
/-- the five steps -/
noncomputable def Steps (w : World) (mean : ExcName → Option Value) (mg mb : Str → Option Value) : Prop := StepC w mean mg mb 94 ∧ StepC w mean mg mb 99 ∧ StepC w mean mg mb 104 ∧ StepC w mean mg mb 109 ∧ StepC w mean mg mb 114
theorem lt5 {x : Int} (h0 : 0 ≤ x) (h1 : x < 5) : x.toNat = 0 ∨ x.toNat = 1 ∨ x.toNat = 2 ∨ x.toNat = 3 ∨ x.toNat = 4 := by
  match x, h0, h1 with
  | .ofNat 0, _, _ => exact .inl rfl
  | .ofNat 1, _, _ => exact .inr (.inl rfl)
  | .ofNat 2, _, _ => exact .inr (.inr (.inl rfl))
  | .ofNat 3, _, _ => exact .inr (.inr (.inr (.inl rfl)))
  | .ofNat 4, _, _ => exact .inr (.inr (.inr (.inr rfl)))
  | .ofNat (n + 5), _, h => have h2 : ((n + 5 : Nat) : Int) < 5 := h; omega
theorem step5 {w : World} {mean : ExcName → Option Value} {mg mb : Str → Option Value} (S : Steps w mean mg mb) (K : keepIn (H.hd02.heap_39 w.params) (.ref 94) = true ∧ keepIn (H.hd02.heap_39 w.params) (.ref 99) = true ∧ keepIn (H.hd02.heap_39 w.params) (.ref 104) = true ∧ keepIn (H.hd02.heap_39 w.params) (.ref 109) = true ∧ keepIn (H.hd02.heap_39 w.params) (.ref 114) = true) (k : Int) : ∃ f, ([.ref 94, .ref 99, .ref 104, .ref 109, .ref 114] : List Value)[(k.fmod 5).toNat]? = some (.ref f) ∧ StepC w mean mg mb f ∧ keepIn (H.hd02.heap_39 w.params) (.ref f) = true := by
  obtain ⟨a, b, c, d, e⟩ := S
  have f := fm_b k (n := 5) (by decide)
  have := lt5 f.1 f.2
  rcases this with h | h | h | h | h <;> rw [h]
  · exact ⟨_, rfl, a, K.1⟩
  · exact ⟨_, rfl, b, K.2.1⟩
  · exact ⟨_, rfl, c, K.2.2.1⟩
  · exact ⟨_, rfl, d, K.2.2.2.1⟩
  · exact ⟨_, rfl, e, K.2.2.2.2⟩
section
variable {w : World} {mean : ExcName → Option Value} {mg mb : Str → Option Value} {dp un : Nat} {gd : Option (List Code)} {cn : Str} {cs : Scope} {a : Addr} {ccd : Value} {cl : List (Str × Addr)} {outer : List Env} {A₀ : Around} {base h₀ : Heap} {L : Addr} {m : Str → Option Value} {s : Shared} {Q E : Value → Shared → Prop} {news : List (Addr × Obj)} {f : Addr}
/-- the walk's word: a step is called -/
theorem step_w {p : Addr} {n : Nat} {r g b top rest : Int} {t1 t2 t3 tt tr : Tok} (S : StepC w mean mg mb f) (F' : Fr h₀ L s.heap m) (N' : News h₀ L s.heap news) (m1 : (p, in3 n r g b t1 t2 t3) ∈ news) (hr : 0 ≤ r ∧ r ≤ top) (hg : 0 ≤ g ∧ g ≤ top) (hb : 0 ≤ b ∧ b ≤ top) (h0 : 0 < top) (h1 : top ≤ 4096)
    (B' : Below A₀ base outer h₀) (X' : (H.hd02.heap_39 w.params).In h₀) (T' : Top topProg loose1 mean mg mb h₀) (hk : cs.kind = .function) (hd : dp + 16 < recursionLimit) (hu : un + 8 * 16 < cLine)
    (hret : ∀ (x y z top' : Int) (q p' : Addr) (n' k : Nat) (u1 u2 u3 ut : Tok) (h' : Heap) (tk' : Nat), (0 ≤ x ∧ x ≤ top') → (0 ≤ y ∧ y ≤ top') → (0 ≤ z ∧ z ≤ top') → 0 < top' → top' ≤ 16384 → Fr h₀ L h' m →
      News h₀ L h' ((q, ({ cls := .type "tuple", data := .seq #[.bool true, .ref p', .int top' ut] k } : Obj)) :: (p', in3 n' x y z u1 u2 u3) :: news) → (∀ e ∈ news, e.1 ≠ p') → (∀ e ∈ news, e.1 ≠ q) → (@Ne Nat p' q) → Q (.ref q) { s with heap := h', toks := tk' }) :
    wpAny (model Challenge.rw_mj0002_02.row.prog w) (ktrTop dp un gd cn cs L a ccd cl outer) (call (.ref f) [.ref p, .int top tt, .int rest tr]) Q E s :=
  S p n r g b top rest t1 t2 t3 tt tr hr hg hb h0 h1 dp un gd cn cs a ccd cl outer A₀ base h₀ L m s Q E B' F' X' (fun q hq => by rw [List.mem_singleton.mp hq]; exact N' _ m1) T' hk hd hu
    fun x y z top' hx hy hz h0' h1' q p' n' k u1 u2 u3 ut h' tk' kp fp fq ne N1 => hret x y z top' q p' n' k u1 u2 u3 ut h' tk' hx hy hz h0' h1' (F'.keeps kp) (fun e he => by
      rcases List.mem_cons.mp he with rfl | he
      · exact N1 _ (List.mem_cons_self ..)
      · rcases List.mem_cons.mp he with rfl | he
        · exact N1 _ (List.mem_cons_of_mem _ (List.mem_cons_self ..))
        · exact N'.grown kp e he) (fresh_ne N' fp) (fresh_ne N' fq) ne
end
section
variable {prog : Program} {w : World} {A : Around} {E : Value → Shared → Prop} {s : Shared} {env : Env} {h₀ : Heap} {x : Str} {body : List Stmt} {Q : Flow → Shared → Prop}
noncomputable abbrev stepsO (cap : Nat) : Obj := listOf #[.ref 94, .ref 99, .ref 104, .ref 109, .ref 114] cap
theorem walk_loop {l p st c : Addr} {vs : List Value} {ns : List Int} {m₀ : Str → Option Value} {cap n : Nat} {r g b top : Int} {t1 t2 t3 tt : Tok} {oc : Obj} (hh : A.handled = none) (hl : h₀.IsList l vs.toArray) (hi : IntsAre vs ns) (F : Fr h₀ env.locals s.heap m₀)
    (N : News h₀ env.locals s.heap [(st, stepsO cap), (c, oc), (p, in3 n r g b t1 t2 t3)]) (hr : 0 ≤ r ∧ r ≤ top) (hg : 0 ≤ g ∧ g ≤ top) (hb : 0 ≤ b ∧ b ≤ top) (h0 : 0 < top) (h1 : top ≤ 4096) (e1 : m₀ (Str.ofString "colour") = some (.ref p)) (e2 : m₀ (Str.ofString "steps") = some (.ref st))
    (dc : oc.data = .cell (some (.int top tt))) (ne1 : @Ne Nat p st) (ne2 : @Ne Nat p c)
    (turn : ∀ (nn : Int) (t : Tok) (m₁ : Str → Option Value) (h : Heap) (tk : Nat) (own : List (Addr × Obj)) (p' : Addr) (n' : Nat) (r' g' b' top' : Int) (u1 u2 u3 ut : Tok) (oc' : Obj), (0 ≤ r' ∧ r' ≤ top') → (0 ≤ g' ∧ g' ≤ top') → (0 ≤ b' ∧ b' ≤ top') → 0 < top' → top' ≤ 4096 → oc'.data = .cell (some (.int top' ut)) →
      (@Ne Nat p' st) → (@Ne Nat p' c) → OwnOff own [p', st, c, p] → Fr h₀ env.locals h (fun y => if y = x then some (.int nn t) else if y = Str.ofString "colour" then some (.ref p') else if y = Str.ofString "steps" then some (.ref st) else m₁ y) →
      News h₀ env.locals h ((p', in3 n' r' g' b' u1 u2 u3) :: (st, stepsO cap) :: (c, oc') :: (p, in3 n r g b t1 t2 t3) :: own) →
      wpAny (model prog w) A (execs body env) (InvPostG h₀ env.locals (WalkJ c st p cap (in3 n r g b t1 t2 t3)) own { s with heap := h, toks := tk } Q) E { s with heap := h, toks := tk })
    (done : ∀ m₁ h tk nx, Fr h₀ env.locals h m₁ → News h₀ env.locals h ((p, in3 n r g b t1 t2 t3) :: nx) → Q .next { s with heap := h, toks := tk }) :
    wpAny (model prog w) A (pyIter (.ref l)) (fun it s₂ => LoopAtV prog w A h₀ env x body Q E it s₂) E s := by
  refine iter_invG (fun _ => WalkJ c st p cap (in3 n r g b t1 t2 t3)) hh hl hi F (news := [(p, in3 n r g b t1 t2 t3), (st, stepsO cap), (c, oc), (p, in3 n r g b t1 t2 t3)]) (fun q hq => N q ?_) ⟨p, n, r, g, b, top, t1, t2, t3, tt, oc, hr, hg, hb, h0, h1, e1, e2, dc, rfl, ne1, ne2⟩ ?_ ?_
  · simp only [List.mem_cons, List.not_mem_nil, or_false] at hq ⊢
    rcases hq with h | h | h | h <;> simp [h]
  · rintro i nn t m₁ nx h tk own _ _ hoff ⟨p', n', r', g', b', top', u1, u2, u3, ut, oc', a1, a2, a3, a4, a5, e1', e2', dc', rfl, ne1', ne2'⟩ F' N'
    exact turn nn t m₁ h tk own p' n' r' g' b' top' u1 u2 u3 ut oc' a1 a2 a3 a4 a5 dc' ne1' ne2' hoff (fr_named F' e1' e2') N'
  · rintro m₁ nx h tk ⟨p', n', r', g', b', top', u1, u2, u3, ut, oc', a1, a2, a3, a4, a5, e1', e2', dc', rfl, ne1', ne2'⟩ F' N'
    exact done m₁ h tk [] F' fun q hq => N' q (by
      rw [List.mem_singleton.mp hq]; simp)
/-- a turn's end -/
theorem walk_end {p st c p₀ : Addr} {cap n : Nat} {o₀ oc : Obj} {r g b top : Int} {t1 t2 t3 tt : Tok} {own all : List (Addr × Obj)} {m : Str → Option Value} {s₁ : Shared} {h' : Heap} {L : Addr} {tk : Nat} (F : Fr h₀ L h' m) (N : News h₀ L h' all) (hr : 0 ≤ r ∧ r ≤ top) (hg : 0 ≤ g ∧ g ≤ top) (hb : 0 ≤ b ∧ b ≤ top) (h0 : 0 < top) (h1 : top ≤ 4096)
    (e1 : m (Str.ofString "colour") = some (.ref p)) (e2 : m (Str.ofString "steps") = some (.ref st)) (dc : oc.data = .cell (some (.int top tt))) (m1 : (p, in3 n r g b t1 t2 t3) ∈ all) (m2 : (st, stepsO cap) ∈ all) (m3 : (c, oc) ∈ all) (m4 : (p₀, o₀) ∈ all) (ho : ∀ q ∈ own, q ∈ all)
    (ne1 : @Ne Nat p st) (ne2 : @Ne Nat p c) (ha : ∀ q ∈ own, q.1 ≠ p) (hoff : ∀ q ∈ own, q.1 ≠ st ∧ q.1 ≠ c ∧ q.1 ≠ p₀) : InvEndG h₀ L (WalkJ c st p₀ cap o₀) own s₁ { s₁ with heap := h', toks := tk } := by
  refine InvEndG.intro F N (nx := [(p, in3 n r g b t1 t2 t3), (st, stepsO cap), (c, oc), (p₀, o₀)]) ⟨p, n, r, g, b, top, t1, t2, t3, tt, oc, hr, hg, hb, h0, h1, e1, e2, dc, rfl, ne1, ne2⟩ (fun q hq b hb => ?_) (fun q hq => ?_) ho
  · simp only [List.map_cons, List.map_nil, List.mem_cons, List.not_mem_nil, or_false] at hb
    rcases hb with rfl | rfl | rfl | rfl
    · exact ha q hq
    · exact (hoff q hq).1
    · exact (hoff q hq).2.1
    · exact (hoff q hq).2.2
  · simp only [List.mem_cons, List.not_mem_nil, or_false] at hq
    rcases hq with rfl | rfl | rfl | rfl <;> assumption
theorem step_sub {mean : ExcName → Option Value} {mg mb : Str → Option Value} {L : Addr} {news : List (Addr × Obj)} {value slice : Expr} {st : Addr} {cap : Nat} {k : Int} {u : Tok} {Q : Value → Shared → Prop} (S : Steps w mean mg mb) (K : keepIn (H.hd02.heap_39 w.params) (.ref 94) = true ∧ keepIn (H.hd02.heap_39 w.params) (.ref 99) = true ∧ keepIn (H.hd02.heap_39 w.params) (.ref 104) = true ∧ keepIn (H.hd02.heap_39 w.params) (.ref 109) = true ∧ keepIn (H.hd02.heap_39 w.params) (.ref 114) = true) (N : News h₀ L s.heap news) (m1 : (st, stepsO cap) ∈ news)
    (h : ∀ f, StepC w mean mg mb f → keepIn (H.hd02.heap_39 w.params) (.ref f) = true → Q (.ref f) s)
    (hs : subscripted slice false (.ref st) (.int (k.fmod 5) u) = operate [.ref st, .int (k.fmod 5) u] (getItem (.ref st) (.int (k.fmod 5) u)) := by with_unfolding_all rfl) (hg : ∀ r, letTemporaryGo value (.ref st) r = pure () := by intro _; with_unfolding_all rfl) :
    wpAny (model prog w) A (subscriptTail value slice (.ref st) (.int (k.fmod 5) u)) Q E s := by
  obtain ⟨f, hf, C, Kf⟩   := step5 S K k
  have b := fm_b k (n := 5) (by decide)
  exact item_listL ⟨_, (N _ m1).1, rfl, cap, rfl⟩ b.1 (Int.lt_trans b.2 (by decide)) hf (h f C Kf) hs hg
end
theorem off1_all {D : Addr} : ∀ {l : List (Addr × Obj)}, LCg.Off1 D l → ∀ q ∈ l, q.1 ≠ D
  | [], _, _, h => nomatch h
  | _ :: _, x, q, h => by
    rcases List.mem_cons.mp h with rfl | h
    · exact x.1
    · exact off1_all x.2 q h
theorem res_b {x t : Int} (hx : 0 ≤ x ∧ x ≤ t) (ht : 0 < t) : 0 ≤ (x * 64).fdiv t ∧ (x * 64).fdiv t ≤ 64 := by
  have d := Int.mul_fdiv_add_fmod (x * 64) t
  have m := fm_b (x * 64) ht
  generalize (x * 64).fdiv t = q at *
  constructor
  · rcases Int.lt_or_le q 0 with h | h
    · have : t * q ≤ t * (-1) := Int.mul_le_mul_of_nonneg_left (by omega) (by omega)
      omega
    · exact h
  · rcases Int.lt_or_le 64 q with h | h
    · have : t * 65 ≤ t * q := Int.mul_le_mul_of_nonneg_left (by omega) (by omega)
      omega
    · exact h
end
end
section
set_option maxRecDepth 100000
section
open PySem PySem.W PySem.Calls PyProof.Rows PyProof.Rows.LCg
/-- an element is an int and nothing new is kept -/
noncomputable def IntEnd (h₀ : Heap) (L : Addr) (m : Str → Option Value) (s : Shared) (all : List (Addr × Obj)) (v : Int) (y : Value) (s' : Shared) : Prop :=
  ∃ h' tk t, s' = { s with heap := h', toks := tk } ∧ y = .int v t ∧ Fr h₀ L h' m ∧ News h₀ L h' all
theorem intEnd {h₀ h' : Heap} {L : Addr} {m : Str → Option Value} {s : Shared} {all : List (Addr × Obj)} {v v' : Int} {t : Tok} {tk : Nat} (F : Fr h₀ L h' m) (N : News h₀ L h' all) (e : v' = v) :
    IntEnd h₀ L m s all v (.int v' t) { s with heap := h', toks := tk } := ⟨h', tk, t, rfl, by rw [e], F, N⟩
section
variable {prog : Program} {w : World} {A : Around} {h₀ : Heap} {L : Addr} {m : Str → Option Value} {env : Env} {elt : Expr} {x : Str} {scope : Scope} {cl : List (Str × Addr)} {s : Shared} {Fin : List Value → List (Addr × Obj) → Prop} {news : List (Addr × Obj)} {S : List (Addr × Obj) → Prop}
theorem ints_snoc {us : List Value} {ns : List Int} (h : IntsAre us ns) (v : Int) (t : Tok) : IntsAre (us ++ [.int v t]) (ns ++ [v]) := by
  induction h with
  | nil => exact .cons _ _ .nil
  | cons a b _ ih => exact .cons _ _ ih
/-- a comprehension that maps ints -/
theorem map_rest {its : Array Value} {vs : List Value} {ns : List Int} (f : Int → Int) (hi : IntsAre vs ns) (ei : its = vs.toArray) (hS : S news)
    (turn : ∀ (n : Int) (t : Tok) (I : Addr) (oI : Obj) (C : Addr) (oC : Obj) (D : Addr) (m₂ : Str → Option Value) (ys : List Value) (h : Heap) (tk : Nat) (E' : Value → Shared → Prop), NsObj oC m₂ → m₂ x = some (.int n t) → Fr h₀ L h m →
      News h₀ L h ((I, oI) :: (C, oC) :: (D, lst ys) :: news) → Off3 I C D news → ((@Ne Nat I C) ∧ (@Ne Nat I D) ∧ (@Ne Nat C D)) →
      wpAny (model prog w) A (eval elt (compEnvC scope cl C env)) (IntEnd h₀ L m { s with heap := h, toks := tk } ((I, oI) :: (C, oC) :: (D, lst ys) :: news) (f n)) E' { s with heap := h, toks := tk })
    (fin : ∀ ys, IntsAre ys (ns.map f) → Fin ys news) :
    CompRest prog w A h₀ L m env elt x scope cl s S (fun i v => its[i]? = some v) Fin its.size 0 [] news := by
  subst ei
  have key : ∀ (j i : Nat) (ys : List Value), i + j = vs.length → IntsAre ys ((ns.take i).map f) → CompRest prog w A h₀ L m env elt x scope cl s S (fun i v => vs.toArray[i]? = some v) Fin j i ys news := by
    intro j
    induction j with
    | zero =>
      intro i ys hl hy
      refine CompRest.zero (fin ys ?_)
      rw [List.take_of_length_le (by rw [← hi.length]; omega)] at hy
      exact hy
    | succ j ih =>
      intro i ys hl hy
      refine CompRest.succ ?_
      intro v I oI C oC D m₂ h tk E' hv hC hx F N off ne
      have hlt : i < ns.length := by rw [← hi.length]; omega
      obtain ⟨t, ht⟩ := hi.get i ns[i] (by simp [hlt])
      have ev : v = .int ns[i] t := by
        have hv' : vs[i]? = some v := by simpa using hv
        rw [ht] at hv'; exact (Option.some.inj hv').symm
      subst ev
      refine wpAny_mono (turn ns[i] t I oI C oC D m₂ ys h tk E' hC hx F N off ne) (fun y s' hy' => ?_) fun _ _ e => e
      obtain ⟨h', tk', t', rfl, rfl, F', N'⟩ := hy'
      refine ⟨h', tk', news, rfl, F', N', off, hS, ih (i + 1) _ (by omega) ?_⟩
      rw [List.take_succ_eq_append_getElem hlt, List.map_append]
      exact ints_snoc hy _ _
  have hn : vs.toArray.size = vs.length := by simp
  rw [hn]
  exact key vs.length 0 [] (by omega) .nil
end
theorem ints3 {ys : List Value} {ns : List Int} (h : IntsAre ys ns) (l : ns.length = 3) : ∃ a b c t1 t2 t3, ys = [.int a t1, .int b t2, .int c t3] ∧ ns = [a, b, c] := by
  match ns, l with
  | [a, b, c], _ =>
    cases h with | cons t1 _ h => cases h with | cons t2 _ h => cases h with | cons t3 _ h => cases h; exact ⟨_, _, _, _, _, _, rfl, rfl⟩
theorem len24 (l : List Int) : (List.take 24 (l ++ [1, 9, 4, 0, 25, 31, 17, 3, 18314])).length = min 24 (l.length + 9) := by
  rw [List.length_take, List.length_append]; rfl
end
end
section
open PySem PySem.W PyProof.Rows
set_option maxRecDepth 100000
section
set_option maxHeartbeats 8000000 in
theorem walk_ok {w : World} {mean : ExcName → Option Value} {mg mb : Str → Option Value} (S : Steps w mean mg mb) (p : Addr) (n : Nat) (r g b top : Int) (t1 t2 t3 tt : Tok) (l : Addr) (vs : List Value) (ns : List Int) (hi : IntsAre vs ns) (hr : 0 ≤ r ∧ r ≤ top) (hg : 0 ≤ g ∧ g ≤ top) (hb : 0 ≤ b ∧ b ≤ top) (h0 : 0 < top) (h1 : top ≤ 4096)
    (dp un : Nat) (gd : Option (List Code)) (cn : Str) (cs : Scope) (a : Addr) (ccd : Value) (cl : List (Str × Addr)) (outer : List Env) (A₀ : Around) (base h₀ : Heap) (L : Addr) (m : Str → Option Value) (s : Shared) (Q E : Value → Shared → Prop)
    (B' : Below A₀ base outer h₀) (F' : Fr h₀ L s.heap m) (X' : (H.hd02.heap_39 w.params).In h₀) (N' : News h₀ L s.heap [(p, in3 n r g b t1 t2 t3)]) (T' : Top topProg loose1 mean mg mb h₀) (hk : cs.kind = .function) (hd : dp + 24 < recursionLimit) (hu : un + 8 * 24 < cLine)
    (hl : s.heap.IsList l vs.toArray) (hlp : l ≠ p) (hret : ∀ h' tk', Keep s.heap h' → Q (.bool true) { s with heap := h', toks := tk' }) :
    wpAny (model Challenge.rw_mj0002_02.row.prog w) (ktrTop dp un gd cn cs L a ccd cl outer) (call (.ref 119) [.ref p, .int top tt, .ref l]) Q E s := by
  k_with_none
  k_with "omega" => (with_reducible assumption)
  k_with "ktr_room" => first | exact rm1 (by with_reducible assumption) (by exact rfl) | exact rm0 hd
  k_with "ktr_units" => exact rm1 (by with_reducible assumption) (by exact rfl)
  k_with "size_fits" => exact szle (by exact rfl)
  k_with "k_room" => ktr_room
  k_with "k_ne" => (refine neN ?_; (try dsimp only); first | (with_reducible assumption) | (with_reducible exact Ne.symm (by assumption)) | (with_reducible exact Nat.ne_of_lt (by assumption)) | (with_reducible exact Nat.ne_of_gt (by assumption)) | (with_reducible exact Nat.ne_of_lt (ltAll (by assumption) (by k_dflt k_mem))) | (with_reducible exact Nat.ne_of_gt (ltAll (by assumption) (by k_dflt k_mem))) | (with_reducible exact Nat.ne_of_lt (ltAllS (by assumption) (by k_dflt k_mem))) | (with_reducible exact Nat.ne_of_gt (ltAllS (by assumption) (by k_dflt k_mem))) | (with_reducible exact Nat.ne_of_gt (ltAllSS (by assumption) (by k_dflt k_mem))) | (with_reducible exact Nat.ne_of_lt (ltAllSS (by assumption) (by k_dflt k_mem))) | (with_reducible exact Nat.ne_of_gt (ltAllSSS (by assumption) (by k_dflt k_mem))) | (with_reducible exact Nat.ne_of_lt (ltAllSSS (by assumption) (by k_dflt k_mem))) | (with_reducible exact Nat.ne_of_lt (ltVia (by assumption) (by assumption) (by k_dflt k_mem))) | (with_reducible exact Nat.ne_of_gt (ltVia (by assumption) (by assumption) (by k_dflt k_mem))) | (with_reducible exact off1 (by assumption) (by k_dflt k_mem)) | (with_reducible exact Ne.symm (off1 (by assumption) (by k_dflt k_mem))) | (with_reducible exact offI (by assumption) (by k_dflt k_mem)) | (with_reducible exact offC (by assumption) (by k_dflt k_mem)) | (with_reducible exact offD (by assumption) (by k_dflt k_mem)) | (with_reducible exact Ne.symm (offI (by assumption) (by k_dflt k_mem))) | (with_reducible exact Ne.symm (offC (by assumption) (by k_dflt k_mem))) | (with_reducible exact Ne.symm (offD (by assumption) (by k_dflt k_mem))))
  k_with "k_lt" => skip
  k_with "k_all" => (with_reducible exact neAll (by assumption))
  k_with "execs cons" => (k_here; (with_reducible show wpAny _ _ _ _ _ (Shared.mk _ _ _ (HAdd.hAdd _ _) _)); refine genTok ?_; intro tk')
  k_with "execs nil" => (k_here; (with_reducible show wpAny _ _ _ _ _ (Shared.mk _ _ _ (HAdd.hAdd _ _) _)); refine genTok ?_; intro tk')
  k_with "execs cons" => (k_here; (rename News _ _ _ _ => N9); dsimp only at N9; walk_at "execs cons")
  k_with "execs cons" => (k_here; (rename Fr _ _ _ _ => F9); dsimp only at F9; walk_at "execs cons")
  k_with "CompEnd" => (k_dflt (refine compEnd_same (by assumption) (by assumption) (by assumption) (by first | lcg_src | assumption) ?_))
  k_with "FinE" => (unfold LCg.FinE; intro D' h' tk' F' N' o1'; (try simp only [List.nil_append, List.cons_append] at N'); (try dsimp only))
  k_with "CompRest" => (with_unfolding_all first | (refine LCg.CompRest.succ ?_; intro v' I' oI' C' oC' D' m' h' tk' E' hv' hC' hx' F' N' off' ne'; lcg_open hv'; (have e1' := And.left ne'; have e2' := And.left (And.right ne'); have e3' := And.right (And.right ne'))) | refine LCg.CompRest.zero ?_)
  k_with "CompSrc" => (k_here; k_dflt (refine LCg.CompSrc.ledger (by rfl) (by k_asm) (by k_asm) (by k_mem) (by first | size_fits | exact Nat.le_of_ble_eq_true rfl) ?_; intro g'; lcg_lit))
  k_with "k_ne" => (refine neN ?_; (try dsimp only); first | (with_reducible assumption) | (with_reducible exact Ne.symm (by assumption)) | (with_reducible exact Nat.ne_of_lt (by assumption)) | (with_reducible exact Nat.ne_of_gt (by assumption)) | (with_reducible exact Nat.ne_of_lt (ltAll (by assumption) (by k_dflt k_mem))) | (with_reducible exact Nat.ne_of_gt (ltAll (by assumption) (by k_dflt k_mem))) | (with_reducible exact Nat.ne_of_lt (ltAllS (by assumption) (by k_dflt k_mem))) | (with_reducible exact Nat.ne_of_gt (ltAllS (by assumption) (by k_dflt k_mem))) | (with_reducible exact Nat.ne_of_gt (ltAllSS (by assumption) (by k_dflt k_mem))) | (with_reducible exact Nat.ne_of_lt (ltAllSS (by assumption) (by k_dflt k_mem))) | (with_reducible exact Nat.ne_of_gt (ltAllSSS (by assumption) (by k_dflt k_mem))) | (with_reducible exact Nat.ne_of_lt (ltAllSSS (by assumption) (by k_dflt k_mem))) | (with_reducible exact Nat.ne_of_lt (ltVia (by assumption) (by assumption) (by k_dflt k_mem))) | (with_reducible exact Nat.ne_of_gt (ltVia (by assumption) (by assumption) (by k_dflt k_mem))) | (with_reducible exact neqAll (by assumption) (by k_dflt k_mem)) | (with_reducible exact Ne.symm (neqAll (by assumption) (by k_dflt k_mem))) | (with_reducible exact off1 (by assumption) (by k_dflt k_mem)) | (with_reducible exact Ne.symm (off1 (by assumption) (by k_dflt k_mem))) | (with_reducible exact offI (by assumption) (by k_dflt k_mem)) | (with_reducible exact offC (by assumption) (by k_dflt k_mem)) | (with_reducible exact offD (by assumption) (by k_dflt k_mem)) | (with_reducible exact Ne.symm (offI (by assumption) (by k_dflt k_mem))) | (with_reducible exact Ne.symm (offC (by assumption) (by k_dflt k_mem))) | (with_reducible exact Ne.symm (offD (by assumption) (by k_dflt k_mem))))
  k_with "call ref" => (k_here; k_dflt (show wpAny _ _ (call (Value.ref 68) _) _ _ _); k_dflt (refine' shares_p (by k_asm) (by k_asm) (by k_mem) (by with_reducible assumption) (by with_reducible assumption) (by with_reducible assumption) (by with_reducible assumption) (by with_reducible assumption) (by with_reducible assumption) (by with_reducible assumption) (by k_asm) (by k_asm) (by k_asm) (by first | exact rfl | assumption) (by ktr_room) (by ktr_units) _; k_whole); intro p' _ _ _ h' _ F' N' l1; (try dsimp only); (try k_fold))
  k_with "call ref" => (k_here; k_dflt (show wpAny _ _ (call (Value.ref 73) _) _ _ _); k_dflt (refine' is_w (by k_asm) (by k_asm) (by k_mem) (by k_mem) (by with_reducible assumption) (by with_reducible assumption) (by with_reducible assumption) (by with_reducible assumption) (by with_reducible assumption) (by with_reducible assumption) (by with_reducible assumption) (by with_reducible assumption) (by k_asm) (by k_asm) (by k_asm) (by first | exact rfl | assumption) (by ktr_room) (by ktr_units) _; k_whole); intro h' _ F' N'; (try dsimp only); (try k_fold))
  k_with "call ref" => (k_here; k_dflt (show wpAny _ _ (call (Value.ref 87) _) _ _ _); k_dflt (refine' seen_w (by k_asm) (by k_asm) (by k_mem) (by with_reducible assumption) (by with_reducible assumption) (by k_asm) (by k_asm) (by k_asm) (by first | exact rfl | assumption) (by ktr_room) (by ktr_units) _; k_whole); intro p' _ _ _ _ h' _ F' N' l1; (try dsimp only); (try k_fold))
  k_with "call ref" => (k_here; k_dflt (show wpAny _ _ (call (Value.ref 80) _) _ _ _); k_dflt (refine' turned_w (by k_asm) (by k_asm) (by k_mem) (by with_reducible assumption) (by with_reducible assumption) (by k_asm) (by k_asm) (by k_asm) (by first | exact rfl | assumption) (by ktr_room) (by ktr_units) _; k_whole); intro p' _ _ _ _ h' _ F' N' l1; (try dsimp only); (try k_fold))
  k_with "call ref" => (k_here; k_dflt (show wpAny _ _ (call (Value.ref 56) _) _ _ _); k_dflt (refine' hsv_k (by with_reducible assumption) (by with_reducible assumption) (by with_reducible assumption) (by with_reducible assumption) _ _ _ _ _ _ _ _ _ _ _ _ _ _ _ _ _ _ (by k_asm) (by k_asm) (by k_asm) (by k_asm) (by k_asm) (by first | exact rfl | assumption) (by ktr_room) (by ktr_units) _; k_whole); intro p' _ _ _ h' _ F' N' l1; (try dsimp only); (try k_fold))
  k_with "call ref" => (k_here; k_dflt (show wpAny _ _ (call (Value.ref 35) _) _ _ _); k_dflt (refine' hls_k (by with_reducible assumption) (by with_reducible assumption) (by with_reducible assumption) (by with_reducible assumption) _ _ _ _ _ _ _ _ _ _ _ _ _ _ _ _ _ _ (by k_asm) (by k_asm) (by k_asm) (by k_asm) (by k_asm) (by first | exact rfl | assumption) (by ktr_room) (by ktr_units) _; k_whole); intro p' _ _ _ h' _ F' N' l1; (try dsimp only); (try k_fold))
  k_with "call ref" => (k_here; k_dflt (show wpAny _ _ (call (Value.ref 21) _) _ _ _); k_dflt (refine' yiq_k (by with_reducible assumption) (by with_reducible assumption) (by with_reducible assumption) _ _ _ _ _ _ _ _ _ _ _ _ _ _ _ _ _ _ (by k_asm) (by k_asm) (by k_asm) (by k_asm) (by k_asm) (by first | exact rfl | assumption) (by ktr_room) (by ktr_units) _; k_whole); intro p' _ _ _ h' _ F' N' l1; (try dsimp only); (try k_fold))
  k_with "call ref" => (k_here; k_dflt (show wpAny _ _ (call (Value.ref 63) _) _ _ _); k_dflt (refine' hr_k (by with_reducible assumption) (by with_reducible assumption) (by with_reducible assumption) (by with_reducible assumption) _ _ _ _ _ _ _ _ _ _ _ _ _ _ _ _ _ _ (by k_asm) (by k_asm) (by k_asm) (by k_asm) (by k_asm) (by first | exact rfl | assumption) (by ktr_room) (by ktr_units) _; k_whole); intro p' _ _ _ h' _ F' N' l1; (try dsimp only); (try k_fold))
  k_with "call ref" => (k_here; k_dflt (show wpAny _ _ (call (Value.ref 42) _) _ _ _); k_dflt (refine' hlr_k (by with_reducible assumption) (by with_reducible assumption) (by with_reducible assumption) _ _ _ _ _ _ _ _ _ _ _ _ _ _ _ _ _ _ (by k_asm) (by k_asm) (by k_asm) (by k_asm) (by k_asm) (by first | exact rfl | assumption) (by ktr_room) (by ktr_units) _; k_whole); intro p' _ _ _ h' _ F' N' l1; (try dsimp only); (try k_fold))
  k_with "call ref" => (k_here; k_dflt (show wpAny _ _ (call (Value.ref 28) _) _ _ _); k_dflt (refine' yr_k (by with_reducible assumption) (by with_reducible assumption) (by with_reducible assumption) _ _ _ _ _ _ _ _ _ _ _ _ _ _ _ _ _ _ (by k_asm) (by k_asm) (by k_asm) (by k_asm) (by k_asm) (by first | exact rfl | assumption) (by ktr_room) (by ktr_units) _; k_whole); intro p' _ _ _ h' _ F' N' l1; (try dsimp only); (try k_fold))
  k_with "binaryOp Div int int" => (k_dflt (refine div_sh rfl (by first | (with_reducible assumption) | omega) (by first | (with_reducible assumption) | omega) (by with_reducible assumption) ?_))
  k_with "subscriptTail" => (k_here; k_dflt (refine step_sub S ⟨by k_is, by k_is, by k_is, by k_is, by k_is⟩ (by k_asm) (by k_mem) ?_); intro f' hf' hkf')
  k_with "callWith ref" => (k_here; k_dflt (refine' callWith_K (by k_asm) hkf' _; k_whole))
  k_with "call ref" => (k_here; k_dflt (show wpAny _ _ (call (Value.ref _) [Value.ref _, Value.int _ _, Value.int _ _]) _ _ _); k_dflt (refine' step_w hf' (by k_asm) (by k_asm) (by k_mem) (by with_reducible assumption) (by with_reducible assumption) (by with_reducible assumption) (by with_reducible assumption) (by with_reducible assumption) (by k_asm) (by k_asm) (by k_asm) (by first | exact rfl | assumption) (by ktr_room) (by ktr_units) _; k_whole); intro x' y' z' top2' q' p2' n2' k' v1' v2' v3' vt' h' tk' hx' hy' hz' h2' h3' F' N' fp' fq' ne3'; (try dsimp only); (try k_fold))
  k_with "pyIter ref" => (k_here; (with_reducible show wpAny _ _ (pyIter (Value.ref _)) (fun it s₂ => LoopAtV _ _ _ _ _ _ _ _ _ it s₂) _ _); k_dflt ((refine walk_loop (by rfl) (by assumption) (by assumption) (by k_asm) (by k_asm) hr hg hb h0 h1 (by rfl) (by rfl) (by assumption) (by k_ne) (by k_ne) ?_ ?_) <;> first | (intro nn' t' m' h' tk' own' p' n' r' g'' b' top' u1' u2' u3' ut' oc' hr' hg' hb' h0' h1' dc' ne1' ne2' hoff' F' N'; (change Fr g' L' _ _ at F'); (change News g' L' _ _ at N')) | (intro m' h' tk' nx' F' N'; (change Fr g' L' _ _ at F'); (change News g' L' _ _ at N'))))
  have N0 := N'
  w_on
  revert X'; k_fill; intro X'
  refine wpAny_call ?_
  k_dflt (refine' code_defCG ?k1 ?k2 ?k3 ?k4 ?k5 ?kA ?kF ?kK ?k6 ?k7 ?k8 ?k9 ?kB ?kD ?_ ?c2 ?c3 ?c4; (case kA => exact rfl); (case kF => exact rfl); (case kK => assumption); (case k1 => k_asm); (case k2 => k_asm); (case k3 => k_asm); (case k4 => k_asm); (case k5 => k_asm); (case k6 => k_is); (case k7 => k_is); (case k8 => ktr_room); (case k9 => first | exact BindsTo.of_eq rfl | exact binds_K (by k_in) rfl (by k_is) rfl rfl rfl | fail "k_enter: no rule for these arguments"); (case kB => exact rfl); (case kD => decide +kernel); (case c2 => exact rfl); (case c3 => exact rfl); (case c4 => exact rfl); k_whole; intro g' L' h' tk' cells' FG' F' N' Y' B' X' T' l1 GS hL; (try k_lt l1); (have hY := CellsAre.one Y'; obtain ⟨oc0, hE', dc0⟩ := hY; subst hE'; clear Y'); (try simp only [List.cons_append, List.nil_append] at N'); (try dsimp only); (try k_lift B'); (try k_fold))
  replace F' : Fr g' L' h' (fun y => if y = Str.ofString "numbers" then some (.ref l) else if y = Str.ofString "colour" then some (.ref p) else none) := F'
  replace dc0 : oc0.data = .cell (some (.int top tt)) := dc0
  have hl' : g'.IsList l vs.toArray := by
    obtain ⟨o, e, r⟩ := hl
    exact ⟨o, GS l o e (by simpa using hlp), r⟩
  k_steps
  all_goals (try exact retBK_use hret N0 GS (by assumption) (by exact cb_drop (by assumption) (by kcj_all)) rfl)
  all_goals first
    | (refine walk_end (L := L') (by assumption) (by assumption) ?_ ?_ ?_ ?_ ?_ (by rfl) (by rfl) (by assumption) (by k_mem) (by k_mem) (by k_mem) (by k_mem) (fun q hq => .tail _ (.tail _ (.tail _ (.tail _ (.tail _ (.tail _ (.tail _ (.tail _ hq)))))))) (Ne.symm (off1 (by assumption) (by k_mem))) (Ne.symm (off1 (by assumption) (by k_mem))) (fun q hq => off1_all (by assumption) q (.tail _ (.tail _ (.tail _ (.tail _ (.tail _ (.tail _ hq))))))) (fun q hq => ⟨hoff' q hq _ (.tail _ (.head _)), hoff' q hq _ (.tail _ (.tail _ (.head _))), hoff' q hq _ (.tail _ (.tail _ (.tail _ (.head _))))⟩) <;> first | exact res_b (by assumption) (by assumption) | decide)
    | (refine walk_end (L := L') (by assumption) (by assumption) ?_ ?_ ?_ ?_ ?_ (by rfl) (by rfl) (by assumption) (by k_mem) (by k_mem) (by k_mem) (by k_mem) (fun q hq => .tail _ (.tail _ (.tail _ (.tail _ (.tail _ (.tail _ hq)))))) (Ne.symm (neqAll fp' (by k_mem))) (Ne.symm (neqAll fp' (by k_mem))) (fun q hq => fp' q (.tail _ (.tail _ (.tail _ (.tail _ hq))))) (fun q hq => ⟨hoff' q hq _ (.tail _ (.head _)), hoff' q hq _ (.tail _ (.tail _ (.head _))), hoff' q hq _ (.tail _ (.tail _ (.tail _ (.head _))))⟩) <;> first | assumption | omega)
    | trace_state
end
end
section
set_option maxRecDepth 100000
section
open PySem PySem.W PySem.Calls PyProof.Rows
noncomputable abbrev loose0 : List Str := looseW H.view02 [Str.ofString "ONE_THIRD", Str.ofString "ONE_SIXTH", Str.ofString "TWO_THIRD"]
/-- what the contracts ask of the top, from what the law's head gives -/
theorem top_bare {P : Program} {loose : List Str} {mean : ExcName → Option Value} {mg mb : Str → Option Value} {h : Heap} (T : Top P loose mean mg mb h) :
    Top topProg (loose ++ (recsOf P).map (·.name) ++ (litsOf P).map (·.1) ++ (clssOf P loose).map (·.name)) mean mg mb h :=
  ⟨T.g, T.b, T.nolimit, T.nodigits, fun d (hd : d ∈ ([] : List DefRec)) => (nomatch hd), fun o (ho : o ∈ ([] : List OwnSpec)) => (nomatch ho), fun x d (e : (none : Option PyData) = some d) => (nomatch e),
    fun x h1 h2 _ _ _ => T.free x h1 (fun q => h2 (by simp [q])) (fun q => h2 (by simp only [List.mem_append]; exact .inl (.inl (.inr q)))) (fun q => h2 (by simp only [List.mem_append]; exact .inl (.inr q))) (fun q => h2 (List.mem_append.mpr (.inr q))),
    T.builtins, fun d (hd : d ∈ ([] : List DefRec)) => (nomatch hd), T.bmain, fun (e : false = true) => (nomatch e)⟩
/-- law's word: the walk is called -/
theorem law_w {w : World} {mean : ExcName → Option Value} {mg mb : Str → Option Value} {dp un : Nat} {gd : Option (List Code)} {cn : Str} {cs : Scope} {a : Addr} {ccd : Value} {cl : List (Str × Addr)} {outer : List Env} {A₀ : Around} {base h₀ : Heap} {L : Addr} {m : Str → Option Value} {s : Shared} {Q E : Value → Shared → Prop} {news : List (Addr × Obj)}
    {p l : Addr} {ys vs : List Value} {T : Int} {tt : Tok} {l0 l1 : List Int} (S : Steps w mean mg mb) (F' : Fr h₀ L s.heap m) (N' : News h₀ L s.heap news) (m1 : (p, LCg.lst ys) ∈ news) (m2 : (l, listOf vs.toArray 0) ∈ news) (hy : IntsAre ys (l0.map fun k => k.fmod (T + 1))) (hl0 : l0.length = 3) (hi : IntsAre vs l1) (h0 : 0 < T) (h1 : T ≤ 4096) (hne : @Ne Nat l p)
    (B' : Below A₀ base outer h₀) (X' : (H.hd02.heap_39 w.params).In h₀) (T' : Top H.view02 loose0 mean mg mb h₀) (hk : cs.kind = .function) (hd : dp + 24 < recursionLimit) (hu : un + 8 * 24 < cLine)
    (hret : ∀ h' tk', Fr h₀ L h' m → Q (.bool true) { s with heap := h', toks := tk' }) :
    wpAny (model Challenge.rw_mj0002_02.row.prog w) (ktrTop dp un gd cn cs L a ccd cl outer) (call (.ref 119) [.ref p, .int T tt, .ref l]) Q E s := by
  obtain ⟨a1, a2, a3, t1, t2, t3, e1, e2⟩ := ints3 hy (by rw [List.length_map]; exact hl0)
  subst e1
  match l0, hl0, e2 with
  | [k1, k2, k3], _, e2 =>
  simp only [List.map_cons, List.map_nil, List.cons.injEq, and_true] at e2
  obtain ⟨b1, b2, b3⟩ := e2
  have f1 := fm_b k1 (n := T + 1) (by omega)
  have f2 := fm_b k2 (n := T + 1) (by omega)
  have f3 := fm_b k3 (n := T + 1) (by omega)
  rw [b1] at f1; rw [b2] at f2; rw [b3] at f3
  exact walk_ok S p 3 a1 a2 a3 T t1 t2 t3 tt l vs l1 hi ⟨f1.1, by omega⟩ ⟨f2.1, by omega⟩ ⟨f3.1, by omega⟩ h0 h1 dp un gd cn cs a ccd cl outer A₀ base h₀ L m s Q E B' F' X'
    (fun q hq => by rw [List.mem_singleton.mp hq]; exact N' _ m1) (top_bare T') hk hd hu (News.isList N' m2) hne fun h' tk' kp => hret h' tk' (F'.keeps kp)
theorem take3 {l : List Int} (h : 4 ≤ l.length) : (List.take (min 4 l.length - 1) (List.drop 1 l)).length = 3 := by
  rw [Nat.min_eq_left h, List.length_take, List.length_drop]
  exact Nat.min_eq_left (Nat.le_sub_of_add_le h)
theorem cells3 (n : List Int) : (List.take (min 4 (List.map (fun c : Int => c.fmod 1000000) (List.take 24 (n ++ [1, 9, 4, 0, 25, 31, 17, 3, 18314]))).length - 1) (List.drop 1 (List.map (fun c : Int => c.fmod 1000000) (List.take 24 (n ++ [1, 9, 4, 0, 25, 31, 17, 3, 18314]))))).length = 3 := by
  refine take3 ?_
  rw [List.length_map, List.length_take, List.length_append]
  exact Nat.le_min.mpr ⟨by decide, Nat.le_trans (show 4 ≤ 9 by decide) (Nat.le_add_left ..)⟩
theorem top64 (x : Int) : 0 < 8 + x.fmod 8 * 8 ∧ 8 + x.fmod 8 * 8 ≤ 4096 := by
  have := fm_b x (n := 8) (by decide)
  omega
theorem post2 (args : List WData) : Challenge.rw_mj0002_02.row.claim.post args (.bool true) args = true := by
  refine postW_of (X := true) rfl ?_ rfl
  show WTm.value [] (.eq .res (.lit (.bool true))) _ = _
  simp [WTm.value]
  first | decide | rfl | simp [same]
theorem law_end2 {cl : Str → Option Addr} {mean : ExcName → Option Value} {args : List WData} {s₁ s' : Shared} {L : Addr} {m : Str → Option Value} (F : Fr s₁.heap L s'.heap m) (ho : s'.os = s₁.os) (hg : s'.gens = #[]) :
    GoodW Challenge.rw_mj0002_02.row.claim cl mean args s₁ (Except.ok (Flow.ret (.bool true))) s' :=
  ⟨Or.inl ⟨_, .bool true, [], rfl, (fun _ => rfl), .bool true, post2 _, fun _ => ⟨List.nodup_nil, fun _ h => nomatch h⟩⟩, F.keep, ho, hg⟩
end
end
section
open PySem PySem.W PyProof.Rows
set_option maxRecDepth 100000
section
set_option maxHeartbeats 8000000 in
theorem law_holds (S9 : ∀ w mean mg mb, Steps w mean mg mb) : PySem.Challenge.rw_mj0002_02.Holds := H.hd02 (by
  k_with_none
  k_with "omega" => (with_reducible assumption)
  k_with "ktr_room" => first | exact rm1 (by with_reducible assumption) (by exact rfl) | exact rm0 hd
  k_with "ktr_units" => exact rm1 (by with_reducible assumption) (by exact rfl)
  k_with "size_fits" => exact szle (by exact rfl)
  k_with "k_ne" => (refine neN ?_; (try dsimp only); first | (with_reducible assumption) | (with_reducible exact Ne.symm (by assumption)) | (with_reducible exact Nat.ne_of_lt (by assumption)) | (with_reducible exact Nat.ne_of_gt (by assumption)) | (with_reducible exact Nat.ne_of_lt (ltAll (by assumption) (by k_dflt k_mem))) | (with_reducible exact Nat.ne_of_gt (ltAll (by assumption) (by k_dflt k_mem))) | (with_reducible exact Nat.ne_of_lt (ltAllS (by assumption) (by k_dflt k_mem))) | (with_reducible exact Nat.ne_of_gt (ltAllS (by assumption) (by k_dflt k_mem))) | (with_reducible exact Nat.ne_of_gt (ltAllSS (by assumption) (by k_dflt k_mem))) | (with_reducible exact Nat.ne_of_lt (ltAllSS (by assumption) (by k_dflt k_mem))) | (with_reducible exact Nat.ne_of_gt (ltAllSSS (by assumption) (by k_dflt k_mem))) | (with_reducible exact Nat.ne_of_lt (ltAllSSS (by assumption) (by k_dflt k_mem))) | (with_reducible exact Nat.ne_of_lt (ltVia (by assumption) (by assumption) (by k_dflt k_mem))) | (with_reducible exact Nat.ne_of_gt (ltVia (by assumption) (by assumption) (by k_dflt k_mem))) | (with_reducible exact neqAll (by assumption) (by k_dflt k_mem)) | (with_reducible exact Ne.symm (neqAll (by assumption) (by k_dflt k_mem))) | (with_reducible exact off1 (by assumption) (by k_dflt k_mem)) | (with_reducible exact Ne.symm (off1 (by assumption) (by k_dflt k_mem))) | (with_reducible exact offI (by assumption) (by k_dflt k_mem)) | (with_reducible exact offC (by assumption) (by k_dflt k_mem)) | (with_reducible exact offD (by assumption) (by k_dflt k_mem)) | (with_reducible exact Ne.symm (offI (by assumption) (by k_dflt k_mem))) | (with_reducible exact Ne.symm (offC (by assumption) (by k_dflt k_mem))) | (with_reducible exact Ne.symm (offD (by assumption) (by k_dflt k_mem))))
  k_with "k_lt" => skip
  k_with "k_all" => (with_reducible exact neAll (by assumption))
  k_with "exec Assign cons ListComp" => (k_here; k_dflt (refine LCg.Assign_ListComp_U (F₀ := by k_asm) (by rfl) (by with_unfolding_all rfl) (by with_unfolding_all rfl) (by decide) (by rfl) (by decide) (by rfl) (by rfl) (by rfl) ?_))
  k_with "CompSrc" => (k_here; (with_reducible rename (IntsAre _ (List.take 24 _)) => hi9); k_dflt (refine LCg.CompSrc.ledger (by rfl) (by k_asm) (by k_asm) (by k_mem) (by rw [List.size_toArray, hi9.length, len24, PySem.sizeLine_eq]; omega) ?_); intro g'; k_dflt ((refine map_rest (fun c => c.fmod 1000000) hi9 rfl (.inr ⟨_, by k_mem, rfl, _, rfl⟩) ?_ ?_) <;> first | (intro n9 t9 I9 oI9 C9 oC9 D9 m9 ys9 h9 tk9 E9 hC9 hx9 F9 N9 off9 ne9) | (intro ys9 hi8)))
  k_with "IntEnd" => (k_dflt (exact intEnd (by assumption) (by assumption) rfl))
  k_with "FinA" => (unfold LCg.FinA; intro D9 h9 tk9 F9 N9 o9)
  k_with "call ref" => (k_here; k_dflt (show wpAny _ _ (call (Value.ref 119) _) _ _ _); (with_reducible rename (Shared.gens _ = _) => hg9); k_dflt (refine law_w (S9 _ _ _ _) (by k_asm) (by k_asm) (by k_mem) (by k_mem) (by assumption) (cells3 _) (by assumption) (top64 _).1 (top64 _).2 (by k_ne) (by k_asm) (by k_asm) (by k_asm) (by first | exact rfl | assumption) (by decide +kernel) (by decide +kernel) ?_); intro h' tk' F'; (try k_unfold); (try dsimp only); (k_dflt (exact law_end2 F' rfl hg9)))
  k_go0
  all_goals try k_fold
  k_steps)
end
end
section
section
open PySem PySem.Flt PySem.Float64
theorem grid (E : Nat) : ∀ j, j ≤ 2 ^ 53 → ∃ t, V t = j * 2 ^ E := by
  induction E with
  | zero => intro j hj; exact ⟨0 * 2 ^ 52 + j, V_at hj (Or.inr rfl)⟩
  | succ E ih =>
    intro j hj
    by_cases h : 2 ^ 52 ≤ j
    · exact ⟨(E + 1) * 2 ^ 52 + j, V_at hj (Or.inl h)⟩
    · obtain ⟨t, ht⟩ := ih (2 * j) (by omega)
      exact ⟨t, by rw [ht, Nat.pow_succ]; ac_rfl⟩
noncomputable def Fin (x : UInt64) : Prop := ∃ a m e, decode x = .fin a m e
theorem Fin.finite {x : UInt64} (h : Fin x) : isFinite x = true := by
  obtain ⟨a, m, e, h⟩ := h; unfold isFinite; rw [h]
theorem mant_lt {x : UInt64} {a : Bool} {m : Nat} {e : Int} (h : decode x = .fin a m e) : m < 2 ^ 53 := by
  unfold decode at h
  simp only at h
  split at h
  · split at h <;> cases h
  · split at h
    · cases h; omega
    · cases h; omega
theorem fin_mag {x : UInt64} (h : Fin x) : ∃ t, (val x).natAbs = V t := by
  obtain ⟨a, m, e, h⟩ := h
  obtain ⟨t, ht⟩ := grid (e + 1074).toNat m (Nat.le_of_lt (mant_lt h))
  exact ⟨t, by rw [val_natAbs h, ht]⟩
/-- r is w / D rounded (in units of 2 ^ -1074) -/
structure RI (r : UInt64) (w : Int) (D : Nat) : Prop where
  fin : Fin r
  up : ∀ y, Fin y → w ≤ (D : Int) * val y → val r ≤ val y
  dn : ∀ y, Fin y → (D : Int) * val y ≤ w → val y ≤ val r
  err : ∀ E, w.natAbs ≤ D * 2 ^ (53 + E) → 2 * ((D : Int) * val r - w) ≤ D * 2 ^ E ∧ 2 * (w - (D : Int) * val r) ≤ D * 2 ^ E
theorem dist_le {a b : Nat} : dist a b = ((b : Int) - a).natAbs := by
  unfold dist
  rcases Nat.le_total a b with h | h
  · rw [Nat.sub_eq_zero_of_le h, Nat.zero_add, ← Int.ofNat_sub h]; rfl
  · rw [Nat.sub_eq_zero_of_le h, Nat.add_zero, ← Int.natAbs_neg, Int.neg_sub, ← Int.ofNat_sub h]; rfl
theorem near {M : Nat} (hM : 0 < M) {W : Nat} (h : W ≤ M * 2 ^ 53) : ∃ j, j ≤ 2 ^ 53 ∧ 2 * dist W (M * j) ≤ M := by
  have e := Nat.div_add_mod W M
  have l := Nat.mod_lt W hM
  have hq : W / M ≤ 2 ^ 53 := Nat.div_le_of_le_mul h
  generalize W / M = q at *
  generalize W % M = s at *
  by_cases hs : 2 * s ≤ M
  · exact ⟨q, hq, by unfold dist; omega⟩
  · refine ⟨q + 1, ?_, ?_⟩
    · rcases Nat.lt_or_ge q (2 ^ 53) with h1 | h1
      · exact h1
      · have : M * 2 ^ 53 ≤ M * q := Nat.mul_le_mul_left _ h1
        omega
    · have e3 : M * (q + 1) = M * q + M := Nat.mul_succ M q
      rw [e3]; unfold dist; omega
theorem abs_neg1 {a b c : Nat} (h : ((a : Int) - c).natAbs ≤ ((b : Int) - c).natAbs) : ((a : Int) - c).natAbs ≤ (-(b : Int) - c).natAbs := by omega
theorem neg_sub_neg' (a c : Int) : (-a - -c).natAbs = (a - c).natAbs := by rw [show -a - -c = -(a - c) by omega, Int.natAbs_neg]
theorem sub_neg' (b c : Int) : (b - -c).natAbs = (-b - c).natAbs := by rw [show -b - c = -(b - -c) by omega, Int.natAbs_neg]
theorem near_le {a b w : Int} (h : (a - w).natAbs ≤ (b - w).natAbs) (hw : w ≤ b) : a ≤ b := by
  have h3 : ((b - w).natAbs : Int) = b - w := Int.natAbs_of_nonneg (Int.sub_nonneg_of_le hw)
  have h4 : a - w ≤ b - w := Int.le_trans Int.le_natAbs (by rw [← h3]; exact Int.ofNat_le.mpr h)
  exact Int.le_of_sub_le_sub_right h4
theorem near_ge {a b w : Int} (h : (a - w).natAbs ≤ (b - w).natAbs) (hw : b ≤ w) : b ≤ a := by
  have e : ∀ x : Int, (x - w).natAbs = (-x - -w).natAbs := fun x => by rw [← Int.natAbs_neg (x - w)]; congr 1; omega
  rw [e, e] at h
  exact Int.neg_le_neg_iff.mp (near_le h (Int.neg_le_neg hw))
theorem right_ri {r : UInt64} {neg : Bool} {W D : Nat} (h : Right r neg W D) (hD : 0 < D) (hs : W ≤ D * 2 ^ 1974) : RI r (sgn neg W) D := by
  obtain ⟨t, hr, hle, hov, hn⟩ := h
  have hlt : t < infMag := by
    rcases Nat.lt_or_ge t infMag with h1 | h1
    · exact h1
    · exfalso
      have h2 := hov.mp (Nat.le_antisymm hle h1)
      have key : ∀ a b : Nat, 2 * a < b → 2 * (D * a) < D * b := fun a b h => by
        calc 2 * (D * a) = D * (2 * a) := by ac_rfl
          _ < D * b := Nat.mul_lt_mul_of_pos_left h hD
      have h3 := key (2 ^ 1974) ((2 ^ 54 - 1) * 2 ^ 2045) (by decide +kernel)
      have h4 := Nat.le_trans h2 (Nat.mul_le_mul_left 2 hs)
      exact absurd h3 (Nat.not_lt.mpr h4)
  obtain ⟨m, e, hd, _⟩ := decode_pack neg hlt
  have hfin : Fin r := ⟨neg, m, e, hr ▸ hd⟩
  have hval : val r = sgn neg (V t) := by rw [hr, val_pack neg hlt]
  have hn' := hn hlt
  have eD : ∀ z : Nat, (D : Int) * (z : Int) = ((D * z : Nat) : Int) := fun z => by simp
  have hself : ∀ y, Fin y → ((D : Int) * val r - sgn neg W).natAbs ≤ ((D : Int) * val y - sgn neg W).natAbs := by
    intro y hy
    obtain ⟨t', ht'⟩ := fin_mag hy
    have h1 := (hn' t').1
    rw [dist_le, dist_le] at h1
    have h2 := eD (V t)
    have h3 := eD (V t')
    have h4 : (D : Int) * val y = ((D * V t' : Nat) : Int) ∨ (D : Int) * val y = -((D * V t' : Nat) : Int) := by
      rcases Int.natAbs_eq (val y) with e | e
      · left; rw [e, ht', h3]
      · right; rw [e, ht', Int.mul_neg, h3]
    rw [hval]
    unfold sgn
    generalize hA : D * V t = a at *
    generalize hB : D * V t' = b at *
    cases neg
    · simp only [Bool.false_eq_true, if_false, h2]
      rcases h4 with h4 | h4 <;> rw [h4]
      · exact h1
      · exact abs_neg1 h1
    · simp only [if_true, Int.mul_neg, h2]
      rw [neg_sub_neg']
      rcases h4 with h4 | h4 <;> rw [h4]
      · rw [sub_neg']; exact abs_neg1 h1
      · rw [neg_sub_neg']; exact h1
  have hDp : (0 : Int) < D := by omega
  refine ⟨hfin, fun y hy hw => ?_, fun y hy hw => ?_, fun E hE => ?_⟩
  · have h1 := hself y hy
    have h2 : (D : Int) * val r ≤ D * val y := near_le h1 hw
    exact Int.le_of_mul_le_mul_left h2 hDp
  · have h1 := hself y hy
    have h2 : (D : Int) * val y ≤ D * val r := near_ge h1 hw
    exact Int.le_of_mul_le_mul_left h2 hDp
  · have hW : (sgn neg W).natAbs = W := sgn_natAbs neg W
    rw [hW] at hE
    have hM : 0 < D * 2 ^ E := Nat.mul_pos hD (Nat.two_pow_pos _)
    obtain ⟨j, hj, hdj⟩ := near hM (W := W) (by rw [Nat.mul_assoc, ← Nat.pow_add, Nat.add_comm]; exact hE)
    obtain ⟨t', ht'⟩ := grid E j hj
    have h1 := (hn' t').1
    have e2 : D * V t' = D * 2 ^ E * j := by rw [ht']; ac_rfl
    rw [e2] at h1
    have h2 : 2 * dist W (D * V t) ≤ D * 2 ^ E := by omega
    rw [dist_le] at h2
    have h3 := eD (V t)
    have h5 : ((D * 2 ^ E : Nat) : Int) = (D : Int) * 2 ^ E := by simp
    rw [hval, ← h5]
    unfold sgn
    cases neg
    · simp only [Bool.false_eq_true, if_false, h3]; omega
    · simp only [if_true, Int.mul_neg, h3]; omega
end
end
section
section
open PySem PySem.Flt PySem.Float64
@[irreducible] def KN : Nat := 2 ^ 1074
theorem KN_eq : KN = 2 ^ 1074 := by unfold KN; rfl
theorem KN_pos : 0 < KN := by rw [KN_eq]; exact Nat.two_pow_pos _
@[irreducible] def ku : Rat := 1 / (KN : Rat)
theorem KN_posR : (0 : Rat) < (KN : Rat) := Rat.natCast_pos.mpr KN_pos
theorem ku_mul : ku * (KN : Rat) = 1 := by
  have := KN_posR
  unfold ku; generalize (KN : Rat) = k at *; grind
theorem ku_pos : 0 < ku := by
  unfold ku
  have h := KN_posR
  generalize (KN : Rat) = k at *
  rw [Rat.div_def, Rat.one_mul]
  exact Rat.inv_pos.mpr h
/-- the value of a finite float -/
noncomputable def fv (x : UInt64) : Rat := (val x : Rat) * ku
theorem fv_le {x y : UInt64} : fv x ≤ fv y ↔ val x ≤ val y := by
  unfold fv
  rw [← Rat.intCast_le_intCast]
  have := ku_pos
  constructor
  · intro h; exact Rat.le_of_mul_le_mul_right h this
  · intro h; exact Rat.mul_le_mul_of_nonneg_right h (Rat.le_of_lt this)
structure Rnd (X : Rat) (r : UInt64) : Prop where
  fin : Fin r
  up : ∀ y, Fin y → X ≤ fv y → fv r ≤ fv y
  dn : ∀ y, Fin y → fv y ≤ X → fv y ≤ fv r
  err : ∀ e : Nat, -(2 ^ e : Rat) ≤ X → X ≤ 2 ^ e → fv r - X ≤ 2 ^ e / 2 ^ 54 ∧ X - fv r ≤ 2 ^ e / 2 ^ 54
theorem cast_pow (e : Nat) : ((2 ^ e : Nat) : Rat) = (2 : Rat) ^ e := by
  induction e with
  | zero => rfl
  | succ n ih => rw [Nat.pow_succ, Rat.natCast_mul, ih, Rat.pow_succ]; rfl
theorem alg1 {v u d k : Rat} (h : u * k = 1) : v * u * (d * k) = d * v := by grind
theorem pow_add2 (a b : Nat) : (2 : Rat) ^ (a + b) = 2 ^ a * 2 ^ b := by rw [← cast_pow, ← cast_pow, ← cast_pow, Nat.pow_add, Rat.natCast_mul]
theorem alg2 {v u d k X q n : Rat} (hd : 0 < d) (hk : 0 < k) (h : u * k = 1) (b : 2 * (d * v - X * (d * k)) ≤ d * n) (hn : n * 9007199254740992 = k * q) : v * u - X ≤ q / 18014398509481984 := by
  have hu : 0 < d * k := Rat.mul_pos hd hk
  have e1 : 2 * (d * v - X * (d * k)) = (v * u - X) * (2 * (d * k)) := by grind
  have e2 : d * n = q / 18014398509481984 * (2 * (d * k)) := by grind
  rw [e1, e2] at b
  exact Rat.le_of_mul_le_mul_right b (by grind)
theorem alg3 {v u d k X q n : Rat} (hd : 0 < d) (hk : 0 < k) (h : u * k = 1) (b : 2 * (X * (d * k) - d * v) ≤ d * n) (hn : n * 9007199254740992 = k * q) : X - v * u ≤ q / 18014398509481984 := by
  have hu : 0 < d * k := Rat.mul_pos hd hk
  have e1 : 2 * (X * (d * k) - d * v) = (X - v * u) * (2 * (d * k)) := by grind
  have e2 : d * n = q / 18014398509481984 * (2 * (d * k)) := by grind
  rw [e1, e2] at b
  exact Rat.le_of_mul_le_mul_right b (by grind)
theorem rnd_of {r : UInt64} {w : Int} {D : Nat} {X : Rat} (h : RI r w D) (hD : 0 < D) (hX : X * ((D : Rat) * (KN : Rat)) = (w : Rat)) : Rnd X r := by
  have hDp : (0 : Rat) < (D : Rat) := Rat.natCast_pos.mpr hD
  have hK := KN_posR
  have hku := ku_mul
  have hkp := ku_pos
  have hDK : (0 : Rat) < (D : Rat) * (KN : Rat) := Rat.mul_pos hDp hK
  have cst : ∀ z : Int, (((D : Int) * z : Int) : Rat) = (D : Rat) * (z : Rat) := fun z => by rw [Rat.intCast_mul]; rfl
  refine ⟨h.fin, fun y hy hle => fv_le.mpr (h.up y hy ?_), fun y hy hle => fv_le.mpr (h.dn y hy ?_), fun e h1 h2 => ?_⟩
  · rw [← Rat.intCast_le_intCast, ← hX, cst]
    have := Rat.mul_le_mul_of_nonneg_right hle (Rat.le_of_lt hDK)
    unfold fv at this
    rw [alg1 hku] at this
    exact this
  · rw [← Rat.intCast_le_intCast, ← hX, cst]
    have := Rat.mul_le_mul_of_nonneg_right hle (Rat.le_of_lt hDK)
    unfold fv at this
    rw [alg1 hku] at this
    exact this
  · have hpw : (2 : Rat) ^ (53 + (1021 + e)) = (KN : Rat) * 2 ^ e := by
      rw [KN_eq, cast_pow, ← pow_add2]; congr 1; omega
    have hw : w.natAbs ≤ D * 2 ^ (53 + (1021 + e)) := by
      have a1 : (w : Rat) ≤ (((D * 2 ^ (53 + (1021 + e)) : Nat) : Int) : Rat) := by
        rw [Rat.intCast_natCast, Rat.natCast_mul, cast_pow, hpw, ← hX]
        have := Rat.mul_le_mul_of_nonneg_right h2 (Rat.le_of_lt hDK)
        generalize (KN : Rat) = k at *
        generalize (2 : Rat) ^ e = q at *
        grind
      have a2 : ((-((D * 2 ^ (53 + (1021 + e)) : Nat) : Int) : Int) : Rat) ≤ (w : Rat) := by
        rw [Rat.intCast_neg, Rat.intCast_natCast, Rat.natCast_mul, cast_pow, hpw, ← hX]
        have := Rat.mul_le_mul_of_nonneg_right h1 (Rat.le_of_lt hDK)
        generalize (KN : Rat) = k at *
        generalize (2 : Rat) ^ e = q at *
        grind
      rw [Rat.intCast_le_intCast] at a1 a2
      omega
    obtain ⟨b1, b2⟩ := h.err (1021 + e) hw
    have hE : (2 : Rat) ^ (1021 + e) * 2 ^ 53 = (KN : Rat) * 2 ^ e := by
      rw [← hpw, ← pow_add2]; congr 1; omega
    have cE : (((D : Int) * 2 ^ (1021 + e) : Int) : Rat) = (D : Rat) * 2 ^ (1021 + e) := by
      rw [cst]; congr 1
      have : (((2 ^ (1021 + e) : Nat) : Int) : Rat) = (2 : Rat) ^ (1021 + e) := by rw [Rat.intCast_natCast, cast_pow]
      rw [← this]; simp
    rw [← Rat.intCast_le_intCast, cE, Rat.intCast_mul, Rat.intCast_sub, cst, ← hX] at b1 b2
    have e53 : (2 : Rat) ^ 53 = 9007199254740992 := by decide +kernel
    have e54 : (2 : Rat) ^ 54 = 18014398509481984 := by decide +kernel
    rw [e53] at hE
    rw [e54]
    exact ⟨alg2 hDp hK hku b1 hE, alg3 hDp hK hku b2 hE⟩
end
end
section
section
open PySem PySem.Flt PySem.Float64
theorem w_bound {w : Int} {D : Nat} {X : Rat} (hD : 0 < D) (hX : X * ((D : Rat) * (KN : Rat)) = (w : Rat)) (e : Nat) (h1 : -(2 ^ e : Rat) ≤ X) (h2 : X ≤ 2 ^ e) : w.natAbs ≤ D * 2 ^ (1074 + e) := by
  have hDp : (0 : Rat) < (D : Rat) := Rat.natCast_pos.mpr hD
  have hDK : (0 : Rat) < (D : Rat) * (KN : Rat) := Rat.mul_pos hDp KN_posR
  have hpw : (2 : Rat) ^ (1074 + e) = (KN : Rat) * 2 ^ e := by rw [KN_eq, cast_pow, ← pow_add2]
  have a1 : (w : Rat) ≤ (((D * 2 ^ (1074 + e) : Nat) : Int) : Rat) := by
    rw [Rat.intCast_natCast, Rat.natCast_mul, cast_pow, hpw, ← hX]
    have := Rat.mul_le_mul_of_nonneg_right h2 (Rat.le_of_lt hDK)
    generalize (KN : Rat) = k at *
    generalize (2 : Rat) ^ e = q at *
    grind
  have a2 : ((-((D * 2 ^ (1074 + e) : Nat) : Int) : Int) : Rat) ≤ (w : Rat) := by
    rw [Rat.intCast_neg, Rat.intCast_natCast, Rat.natCast_mul, cast_pow, hpw, ← hX]
    have := Rat.mul_le_mul_of_nonneg_right h1 (Rat.le_of_lt hDK)
    generalize (KN : Rat) = k at *
    generalize (2 : Rat) ^ e = q at *
    grind
  rw [Rat.intCast_le_intCast] at a1 a2
  omega
theorem sgn_self (S : Int) : sgn (decide (S < 0)) S.natAbs = S := by
  unfold sgn; by_cases h : S < 0 <;> simp [h] <;> omega
theorem ri_zero (b : Bool) : RI (zero b) 0 1 := by
  have hv : val (zero b) = 0 := by cases b <;> decide +kernel
  have hf : Fin (zero b) := by
    obtain ⟨m, e, h, _⟩ := decode_pack b (t := 0) (by decide +kernel)
    exact ⟨b, m, e, h⟩
  refine ⟨hf, fun y _ h => by rw [hv]; simpa using h, fun y _ h => by rw [hv]; simpa using h, fun E _ => ?_⟩
  rw [hv]
  have : (0 : Int) ≤ 2 ^ E := Int.le_of_lt (Int.pow_pos (by decide))
  simp; omega
noncomputable abbrev Big (X : Rat) : Prop := -(2 ^ 900 : Rat) ≤ X ∧ X ≤ 2 ^ 900
theorem rnd_right {r : UInt64} {neg : Bool} {W D : Nat} {X : Rat} (h : Right r neg W D) (hD : 0 < D) (hX : X * ((D : Rat) * (KN : Rat)) = ((sgn neg W : Int) : Rat)) (hb : Big X) : Rnd X r := by
  have h1 := w_bound hD hX 900 hb.1 hb.2
  rw [sgn_natAbs] at h1
  exact rnd_of (right_ri h hD h1) hD hX
theorem add_rnd {x y : UInt64} (hx : Fin x) (hy : Fin y) (hb : Big (fv x + fv y)) : Rnd (fv x + fv y) (add x y) := by
  obtain ⟨a, m, e, hx⟩ := hx
  obtain ⟨b, k, f, hy⟩ := hy
  have hX : (fv x + fv y) * (((1 : Nat) : Rat) * (KN : Rat)) = ((val x + val y : Int) : Rat) := by
    rw [Rat.intCast_add]; unfold fv
    have := ku_mul
    generalize (KN : Rat) = k at *
    show (_ : Rat) * (1 * k) = _
    grind
  obtain ⟨h0, h1⟩ := add_right hx hy
  by_cases hS : val x + val y = 0
  · rw [h0 hS]
    rw [hS] at hX
    exact rnd_of (ri_zero _) (by decide) hX
  · have := h1 hS
    refine rnd_right this (by decide) ?_ hb
    rw [sgn_self]; exact hX
theorem sub_rnd {x y : UInt64} (hx : Fin x) (hy : Fin y) (hb : Big (fv x - fv y)) : Rnd (fv x - fv y) (sub x y) := by
  obtain ⟨a, m, e, hx⟩ := hx
  obtain ⟨b, k, f, hy⟩ := hy
  have hX : (fv x - fv y) * (((1 : Nat) : Rat) * (KN : Rat)) = ((val x - val y : Int) : Rat) := by
    rw [Rat.intCast_sub]; unfold fv
    have := ku_mul
    generalize (KN : Rat) = k at *
    show (_ : Rat) * (1 * k) = _
    grind
  obtain ⟨h0, h1⟩ := sub_right hx hy
  by_cases hS : val x - val y = 0
  · rw [h0 hS]
    rw [hS] at hX
    exact rnd_of (ri_zero _) (by decide) hX
  · have := h1 hS
    refine rnd_right this (by decide) ?_ hb
    rw [sgn_self]; exact hX
theorem val_sgn {x : UInt64} {a : Bool} {m : Nat} {e : Int} (h : decode x = .fin a m e) : val x = sgn a (val x).natAbs := by rw [val_natAbs h, val_eq h]
theorem sgn_xor (a b : Bool) (p q : Nat) : sgn (a != b) (p * q) = sgn a p * sgn b q := by
  unfold sgn; cases a <;> cases b <;> simp <;> grind
theorem mul_rnd {x y : UInt64} (hx : Fin x) (hy : Fin y) (hb : Big (fv x * fv y)) : Rnd (fv x * fv y) (mul x y) := by
  obtain ⟨a, m, e, hx⟩ := hx
  obtain ⟨b, k, f, hy⟩ := hy
  have := mul_right hx hy
  refine rnd_right this (Nat.two_pow_pos _) ?_ hb
  rw [sgn_xor, ← val_sgn hx, ← val_sgn hy, Rat.intCast_mul, ← KN_eq]
  unfold fv
  have := ku_mul
  generalize (KN : Rat) = k at *
  grind
theorem div_rnd {x y : UInt64} (hx : Fin x) (hy : Fin y) (h0 : fv y ≠ 0) (hb : Big (fv x / fv y)) : Rnd (fv x / fv y) (div x y) := by
  obtain ⟨a, m, e, hx⟩ := hx
  obtain ⟨b, k, f, hy⟩ := hy
  have hvy : val y ≠ 0 := fun h => h0 (by unfold fv; rw [h]; simp)
  have hk : k ≠ 0 := fun h => by
    apply hvy; rw [val_eq hy, h]; unfold sgn; simp
  have := div_right hx hy hk
  have hD : 0 < (val y).natAbs := by omega
  refine rnd_right this hD ?_ hb
  have e1 : sgn (a != b) ((val x).natAbs * 2 ^ 1074) * sgn b (val y).natAbs = val x * (KN : Int) * ((val y).natAbs : Int) := by
    rw [← sgn_xor]
    have : ((a != b) != b) = a := by cases a <;> cases b <;> rfl
    rw [this, sgn_mul, sgn_mul, ← val_sgn hx, ← KN_eq]
  have e2 := val_sgn hy
  have e3 : sgn b (val y).natAbs = val y := e2.symm
  rw [e3] at e1
  have e4 : ((sgn (a != b) ((val x).natAbs * 2 ^ 1074) * val y : Int) : Rat) = ((val x * (KN : Int) * ((val y).natAbs : Int) : Int) : Rat) := by rw [e1]
  rw [Rat.intCast_mul, Rat.intCast_mul, Rat.intCast_mul] at e4
  have hvyR : ((val y : Int) : Rat) ≠ 0 := fun h => hvy (by rw [← Rat.intCast_zero] at h; exact Rat.intCast_inj.mp h)
  have c1 : ((KN : Int) : Rat) = (KN : Rat) := Rat.intCast_natCast _
  have c2 : (((val y).natAbs : Int) : Rat) = ((val y).natAbs : Rat) := Rat.intCast_natCast _
  rw [c1, c2] at e4
  unfold fv at *
  have hku := ku_mul
  have hkp := ku_pos
  generalize ((sgn (a != b) ((val x).natAbs * 2 ^ 1074) : Int) : Rat) = S at *
  generalize (val y : Rat) = vy at *
  generalize (val x : Rat) = vx at *
  generalize ((val y).natAbs : Rat) = ny at *
  generalize (KN : Rat) = k at *
  generalize ku = u at *
  have hu : u ≠ 0 := by grind
  have e5 : vx * u / (vy * u) = vx / vy := by grind
  rw [e5]
  have e6 : vx / vy * (ny * k) * vy = S * vy := by grind
  grind
theorem ofInt_rnd (i : Int) (hb : Big (i : Rat)) : Rnd (i : Rat) (ofInt i) := by
  have := ofInt_right i
  refine rnd_right this (by decide) ?_ hb
  rw [sgn_mul, sgn_self, Rat.intCast_mul, ← KN_eq, Rat.intCast_natCast]
  show (_ : Rat) * (1 * _) = _
  grind
theorem ofFrac_rnd {a b : Int} (hb0 : b ≠ 0) (hb : Big ((a : Rat) / b)) : Rnd ((a : Rat) / b) (ofFrac (decide (a < 0) != decide (b < 0)) a.natAbs b.natAbs) := by
  have hD : 0 < b.natAbs := by omega
  have := ofFrac_right (neg := (decide (a < 0) != decide (b < 0))) (n := a.natAbs) (d := b.natAbs) (W := a.natAbs * 2 ^ 1074) (D := b.natAbs) hD rfl hD
  refine rnd_right this hD ?_ hb
  have e1 : sgn (decide (a < 0) != decide (b < 0)) (a.natAbs * 2 ^ 1074) * b = a * (KN : Int) * (b.natAbs : Int) := by
    have h1 : sgn (decide (b < 0)) b.natAbs = b := sgn_self b
    have h2 : sgn (decide (a < 0)) a.natAbs = a := sgn_self a
    have h3 : sgn (decide (a < 0) != decide (b < 0)) (a.natAbs * 2 ^ 1074) * sgn (decide (b < 0)) b.natAbs = a * (KN : Int) * (b.natAbs : Int) := by
      rw [← sgn_xor]
      have : ((decide (a < 0) != decide (b < 0)) != decide (b < 0)) = decide (a < 0) := by cases decide (a < 0) <;> cases decide (b < 0) <;> rfl
      rw [this, sgn_mul, sgn_mul, h2, ← KN_eq]
    rw [h1] at h3; exact h3
  have e4 : ((sgn (decide (a < 0) != decide (b < 0)) (a.natAbs * 2 ^ 1074) * b : Int) : Rat) = ((a * (KN : Int) * (b.natAbs : Int) : Int) : Rat) := by rw [e1]
  rw [Rat.intCast_mul, Rat.intCast_mul, Rat.intCast_mul] at e4
  have hbR : (b : Rat) ≠ 0 := fun h => hb0 (by rw [← Rat.intCast_zero] at h; exact Rat.intCast_inj.mp h)
  have c1 : ((KN : Int) : Rat) = (KN : Rat) := Rat.intCast_natCast _
  have c2 : ((b.natAbs : Int) : Rat) = (b.natAbs : Rat) := Rat.intCast_natCast _
  rw [c1, c2] at e4
  generalize ((sgn (decide (a < 0) != decide (b < 0)) (a.natAbs * 2 ^ 1074) : Int) : Rat) = S at *
  generalize (a : Rat) = va at *
  generalize (b : Rat) = vb at *
  generalize (b.natAbs : Rat) = nb at *
  generalize (KN : Rat) = k at *
  have e6 : va / vb * (nb * k) * vb = S * vb := by grind
  grind
theorem const_fv {c : UInt64} {n : Int} {d : Nat} (hd : d ≠ 0) (h : val c * d = n * 2 ^ 1074) : fv c = (n : Rat) / (d : Rat) := by
  unfold fv
  have h1 : ((val c * d : Int) : Rat) = ((n * (KN : Int) : Int) : Rat) := by rw [KN_eq, h]; simp
  rw [Rat.intCast_mul, Rat.intCast_mul, Rat.intCast_natCast, Rat.intCast_natCast] at h1
  have hdR : (d : Rat) ≠ 0 := fun h => hd (by have : ((d : Nat) : Rat) = ((0 : Nat) : Rat) := h; exact Rat.natCast_inj.mp this)
  have hku := ku_mul
  generalize (val c : Rat) = v at *
  generalize (KN : Rat) = k at *
  generalize (d : Rat) = d at *
  generalize ku = u at *
  have : v * u * d = n := by grind
  grind
end
end
section
section
open PySem PySem.Flt PySem.Float64
theorem fv_lt {x y : UInt64} : fv x < fv y ↔ val x < val y := by
  rw [← Rat.not_le, fv_le, Int.not_le]
theorem fv_eq {x y : UInt64} : fv x = fv y ↔ val x = val y := by
  constructor
  · intro h
    exact Int.le_antisymm (fv_le.mp (by rw [h]; exact Rat.le_refl)) (fv_le.mp (by rw [h]; exact Rat.le_refl))
  · intro h; unfold fv; rw [h]
theorem cmp_fin {x y : UInt64} (hx : Fin x) (hy : Fin y) : cmp x y = some (compare (val x) (val y)) := by
  obtain ⟨a, m, e, hx⟩ := hx
  obtain ⟨b, k, f, hy⟩ := hy
  exact cmp_right hx hy
theorem feq_iff {x y : UInt64} (hx : Fin x) (hy : Fin y) : feq x y = true ↔ fv x = fv y := by
  unfold feq
  rw [cmp_fin hx hy, fv_eq]
  rcases Int.lt_trichotomy (val x) (val y) with h | h | h
  · rw [Int.compare_eq_lt.mpr h]; simp; omega
  · rw [h]; simp
  · rw [Int.compare_eq_gt.mpr h]; simp; omega
theorem flt_iff {x y : UInt64} (hx : Fin x) (hy : Fin y) : flt x y = true ↔ fv x < fv y := by
  unfold flt
  rw [cmp_fin hx hy, fv_lt]
  rcases Int.lt_trichotomy (val x) (val y) with h | h | h
  · rw [Int.compare_eq_lt.mpr h]; simp; omega
  · rw [h]; simp
  · rw [Int.compare_eq_gt.mpr h]; simp; omega
theorem fgt_iff {x y : UInt64} (hx : Fin x) (hy : Fin y) : fgt x y = true ↔ fv y < fv x := by
  unfold fgt
  rw [cmp_fin hx hy, fv_lt]
  rcases Int.lt_trichotomy (val x) (val y) with h | h | h
  · rw [Int.compare_eq_lt.mpr h]; simp; omega
  · rw [h]; simp
  · rw [Int.compare_eq_gt.mpr h]; simp; omega
theorem fle_iff {x y : UInt64} (hx : Fin x) (hy : Fin y) : fle x y = true ↔ fv x ≤ fv y := by
  unfold fle
  rw [cmp_fin hx hy, fv_le]
  rcases Int.lt_trichotomy (val x) (val y) with h | h | h
  · rw [Int.compare_eq_lt.mpr h]; simp; omega
  · rw [h]; simp
  · rw [Int.compare_eq_gt.mpr h]; simp; omega
theorem val_zero_iff {x : UInt64} (hx : Fin x) : isZero x = true ↔ val x = 0 := by
  obtain ⟨a, m, e, h⟩ := hx
  have h1 := val_natAbs h
  unfold isZero
  rw [h]
  cases m with
  | zero => simp at h1; simp [h1]
  | succ n =>
    have : 0 < (n + 1) * 2 ^ (e + 1074).toNat := Nat.mul_pos (Nat.succ_pos _) (Nat.two_pow_pos _)
    simp only [Bool.false_eq_true, false_iff]
    omega
theorem isZero_iff {x : UInt64} (hx : Fin x) : isZero x = true ↔ fv x = 0 := by
  rw [val_zero_iff hx]
  constructor
  · intro h; unfold fv; rw [h]; simp
  · intro h
    unfold fv at h
    have hk := ku_pos
    have : (val x : Rat) = 0 := by
      rcases Rat.mul_eq_zero.mp h with h | h
      · exact h
      · exfalso; rw [h] at hk; exact absurd hk (by decide)
    rw [← Rat.intCast_zero] at this
    exact Rat.intCast_inj.mp this
-- round to the nearest int
theorem half_near {n d : Nat} (hd : 0 < d) {N : Int} (h : 2 * ((n : Int) - d * N).natAbs < d) : (halfEven n d : Int) = N := by
  have e := Nat.div_add_mod n d
  have l := Nat.mod_lt n hd
  unfold halfEven
  simp only
  have e' : (n : Int) = (d : Int) * ((n / d : Nat) : Int) + ((n % d : Nat) : Int) := by
    have : ((d * (n / d) + n % d : Nat) : Int) = (n : Int) := by rw [e]
    rw [← this]; simp
  generalize n / d = q at *
  generalize n % d = r at *
  have hq : (q : Int) = N ∨ (q : Int) + 1 = N := by
    rcases Int.lt_trichotomy (q : Int) N with h1 | h1 | h1
    · rcases Int.lt_or_le ((q : Int) + 1) N with h2 | h2
      · exfalso
        have : (d : Int) * ((q : Int) + 2) ≤ d * N := Int.mul_le_mul_of_nonneg_left (by omega) (by omega)
        rw [Int.mul_add] at this
        omega
      · right; omega
    · left; exact h1
    · exfalso
      have : (d : Int) * (N + 1) ≤ d * q := Int.mul_le_mul_of_nonneg_left (by omega) (by omega)
      rw [Int.mul_add] at this
      omega
  rcases hq with h1 | h1
  · subst h1
    have : ¬ (2 * r > d) := by omega
    have h3 : ¬ (2 * r = d) := by omega
    simp [this, h3]
  · rw [← h1, Int.mul_add] at h
    have : 2 * r > d := by omega
    simp [this]; omega
theorem round_near {x : UInt64} (hx : Fin x) {N : Int} (h : 2 * (val x - N * (KN : Int)).natAbs < KN) : toInt nearestOf x = N := by
  obtain ⟨s, m, e, hd⟩ := hx
  rw [toInt_fin hd]
  have he := decode_ge hd
  have hs := shift_one m e 1074 (by omega)
  have hp := shift_pos m 1 e (by decide)
  have hv := val_sgn hd
  have hn := val_natAbs hd
  unfold nearestOf
  simp only
  generalize (shift m 1 e).1 = n at *
  generalize (shift m 1 e).2 = d at *
  have e1 : ((1074 : Nat) : Int) = 1074 := rfl
  rw [e1, ← hn, ← KN_eq] at hs
  -- n * KN = |val x| * d
  have hK := KN_pos
  generalize KN = k at *
  have hs' : (n : Int) * k = ((val x).natAbs : Int) * d := by
    have : ((n * k : Nat) : Int) = (((val x).natAbs * d : Nat) : Int) := by rw [hs]
    simpa using this
  unfold sgn at hv ⊢
  cases s with
  | false =>
    simp only [Bool.false_eq_true, if_false] at hv ⊢
    refine half_near hp ?_
    have : ((n : Int) - d * N) * k = (val x - N * k) * d := by rw [← hv] at hs'; grind
    have h2 : ((n : Int) - d * N).natAbs * k = (val x - N * k).natAbs * d := by
      have := congrArg Int.natAbs this
      rw [Int.natAbs_mul, Int.natAbs_mul] at this
      simpa using this
    have h3 : 2 * ((n : Int) - d * N).natAbs * k < d * k := by
      have := Nat.mul_lt_mul_of_pos_right h hp
      calc 2 * ((n : Int) - d * N).natAbs * k = 2 * (((n : Int) - d * N).natAbs * k) := by ac_rfl
        _ = 2 * (val x - N * k).natAbs * d := by rw [h2]; ac_rfl
        _ < k * d := this
        _ = d * k := Nat.mul_comm _ _
    exact Nat.lt_of_mul_lt_mul_right h3
  | true =>
    simp only [if_true] at hv ⊢
    have : (halfEven n d : Int) = -N := by
      refine half_near hp ?_
      have : ((n : Int) - d * (-N)) * k = -(val x - N * k) * d := by
        have hv' : ((val x).natAbs : Int) = -val x := by omega
        rw [hv'] at hs'; grind
      have h2 : ((n : Int) - d * (-N)).natAbs * k = (val x - N * k).natAbs * d := by
        have := congrArg Int.natAbs this
        rw [Int.natAbs_mul, Int.natAbs_mul, Int.natAbs_neg] at this
        simpa using this
      have h3 : 2 * ((n : Int) - d * (-N)).natAbs * k < d * k := by
        have := Nat.mul_lt_mul_of_pos_right h hp
        calc 2 * ((n : Int) - d * (-N)).natAbs * k = 2 * (((n : Int) - d * (-N)).natAbs * k) := by ac_rfl
          _ = 2 * (val x - N * k).natAbs * d := by rw [h2]; ac_rfl
          _ < k * d := this
          _ = d * k := Nat.mul_comm _ _
      exact Nat.lt_of_mul_lt_mul_right h3
    omega
end
end
section
section
open PySem PySem.Flt PySem.Float64
theorem tn {a g : Int} (h0 : -1074 ≤ g) (h1 : g ≤ a) : (a - g).toNat + (g + 1074).toNat = (a + 1074).toNat := by
  rw [← Int.toNat_add (Int.sub_nonneg_of_le h1) (show 0 ≤ g + 1074 from Int.add_le_add_right h0 1074), ← Int.add_assoc, Int.sub_add_cancel]
theorem trunc_spec {x : UInt64} (hx : Fin x) (h0 : 0 ≤ val x) : toInt truncOf x * (KN : Int) ≤ val x ∧ val x < (toInt truncOf x + 1) * (KN : Int) := by
  obtain ⟨s, m, e, hd⟩ := hx
  rw [toInt_fin hd]
  have he := decode_ge hd
  have hv := val_eq hd
  have hpw : ∀ n : Nat, (0 : Int) < 2 ^ n := fun n => Int.pow_pos (by decide)
  have hK : (KN : Int) = 2 ^ 1074 := by rw [KN_eq]; simp
  have core : ∀ (m : Nat), floorOf false m e * (KN : Int) ≤ (m : Int) * 2 ^ (e + 1074).toNat ∧ (m : Int) * 2 ^ (e + 1074).toNat < (floorOf false m e + 1) * (KN : Int) := by
    intro m
    unfold floorOf sgn
    simp only [Bool.false_eq_true, if_false]
    split
    · rename_i h
      have e1 : (e + 1074).toNat = e.toNat + 1074 := Int.toNat_add h (by decide)
      rw [e1, Int.pow_add, hK]
      have := hpw 1074
      generalize (2 : Int) ^ 1074 = k at *
      generalize (2 : Int) ^ e.toNat = q at *
      constructor
      · grind
      · grind
    · rename_i h
      have e1 : 1074 = (e + 1074).toNat + (-e).toNat := by
        have := tn he (Int.le_of_lt (Int.not_le.mp h))
        rw [Int.zero_sub] at this
        rw [Nat.add_comm]; exact this.symm
      have e2 : (2 : Int) ^ 1074 = 2 ^ (e + 1074).toNat * 2 ^ (-e).toNat := by
        rw [← Int.pow_add, ← e1]
      rw [hK, e2]
      have h1 := hpw (e + 1074).toNat
      have h2 := hpw (-e).toNat
      generalize (2 : Int) ^ (e + 1074).toNat = a at *
      generalize (2 : Int) ^ (-e).toNat = c at *
      rw [Int.fdiv_eq_ediv_of_nonneg _ (Int.le_of_lt h2)]
      have f1 := Int.emod_nonneg (m : Int) (Int.ne_of_gt h2)
      have f2 := Int.emod_lt_of_pos (m : Int) h2
      have f3 := Int.mul_ediv_add_emod (m : Int) c
      generalize (m : Int) / c = q at *
      generalize (m : Int) % c = r at *
      have g1 : q * (a * c) = (c * q) * a := by grind
      have g2 : (q + 1) * (a * c) = (c * q + c) * a := by grind
      rw [g1, g2]
      constructor
      · exact Int.mul_le_mul_of_nonneg_right (by omega) (Int.le_of_lt h1)
      · exact Int.mul_lt_mul_of_pos_right (by omega) h1
  unfold truncOf
  cases s with
  | false =>
    simp only [Bool.false_eq_true, if_false]
    rw [hv]
    have := core m
    unfold sgn
    simpa using this
  | true =>
    have hm : m = 0 := by
      rcases Nat.eq_zero_or_pos m with h | h
      · exact h
      · exfalso
        rw [hv] at h0
        unfold sgn at h0
        have : 0 < m * 2 ^ (e + 1074).toNat := Nat.mul_pos h (Nat.two_pow_pos _)
        simp only [if_true] at h0
        omega
    subst hm
    have h1 : floorOf false 0 e = 0 := by
      unfold floorOf sgn; simp
    have h2 : val x = 0 := by rw [hv]; unfold sgn; simp
    simp only [if_true]
    unfold ceilOf
    simp only [Bool.not_true]
    rw [h1, h2]
    have := KN_pos
    simp; omega
theorem decode_c1 : decode c1 = .fin false (2 ^ 52) (-52) := by
  kernel_rfl
theorem exact_ri {r : UInt64} {neg : Bool} {W : Nat} (h : Right r neg W 1) (hs : W ≤ 2 ^ 1974) {t : Nat} (ht : V t = W) : Fin r ∧ val r = sgn neg W := by
  have h1 := right_ri h (by decide) (by simpa using hs)
  refine ⟨h1.fin, ?_⟩
  obtain ⟨t0, hr, hle, hov, hn⟩ := h
  have hlt : t0 < infMag := by
    rcases Nat.lt_or_ge t0 infMag with h1 | h1
    · exact h1
    · exfalso
      have h2 := hov.mp (Nat.le_antisymm hle h1)
      have h3 : 2 * 2 ^ 1974 < 1 * ((2 ^ 54 - 1) * 2 ^ 2045) := by decide +kernel
      have h4 := Nat.le_trans h2 (Nat.mul_le_mul_left 2 hs)
      exact absurd h3 (Nat.not_lt.mpr h4)
  have h2 := (hn hlt t).1
  rw [dist_le, dist_le, ht] at h2
  rw [hr, val_pack neg hlt]
  have : V t0 = W := by omega
  rw [this]
/-- x fmod 1.0, exact -/
theorem fmod_one {x : UInt64} {a : Bool} {m : Nat} {e : Int} (hd : decode x = .fin a m e) : Fin (fmod x c1) ∧ val (fmod x c1) = sgn a ((val x).natAbs % KN) := by
  have he := decode_ge hd
  have hm := mant_lt hd
  have hn := val_natAbs hd
  have hf : fmod x c1 = ofBin a ((sgn false (m * 2 ^ (e - min e (-52)).toNat)).toNat % (sgn false (2 ^ 52 * 2 ^ ((-52) - min e (-52)).toNat)).toNat) (min e (-52)) := by
    unfold fmod
    rw [hd, decode_c1]
    simp only [align]
    rw [if_neg (by decide)]
  have hj : ∀ z : Nat, (sgn false z).toNat = z := fun z => by unfold sgn; simp
  rw [hj, hj] at hf
  generalize hg : min e (-52) = g at *
  have hg0 : -1074 ≤ g := by rw [← hg]; exact Int.le_min.mpr ⟨he, by decide⟩
  have hg1 : g ≤ e := by rw [← hg]; exact Int.min_le_left ..
  have hg2 : g ≤ -52 := by rw [← hg]; exact Int.min_le_right ..
  have hgm : g + 1074 ≥ 0 := Int.add_le_add_right hg0 1074
  have eq1 : m * 2 ^ (e - g).toNat * 2 ^ (g + 1074).toNat = (val x).natAbs := by
    rw [hn, Nat.mul_assoc, ← Nat.pow_add, tn hg0 hg1]
  have eq2 : 2 ^ 52 * 2 ^ ((-52) - g).toNat * 2 ^ (g + 1074).toNat = KN := by
    rw [KN_eq, ← Nat.pow_add, ← Nat.pow_add, Nat.add_assoc, tn hg0 hg2]
    rfl
  have hjle : (m * 2 ^ (e - g).toNat) % (2 ^ 52 * 2 ^ ((-52) - g).toNat) ≤ 2 ^ 53 := by
    rcases Int.le_total e (-52) with h | h
    · have : g = e := hg.symm.trans (Int.min_eq_left h)
      subst this
      have h1 : m * 2 ^ (g - g).toNat = m := by simp
      rw [h1]
      exact Nat.le_trans (Nat.mod_le _ _) (Nat.le_of_lt hm)
    · have : g = -52 := hg.symm.trans (Int.min_eq_right h)
      subst this
      have h1 : 2 ^ 52 * 2 ^ ((-52 : Int) - (-52)).toNat = 2 ^ 52 := by simp
      rw [h1]
      exact Nat.le_trans (Nat.le_of_lt (Nat.mod_lt (m * 2 ^ (e - (-52)).toNat) (show 0 < 2 ^ 52 by decide))) (by decide)
  have eq3 : (m * 2 ^ (e - g).toNat) % (2 ^ 52 * 2 ^ ((-52) - g).toNat) * 2 ^ (g + 1074).toNat = (val x).natAbs % KN := by
    rw [← eq1, ← eq2, Nat.mul_mod_mul_right]
  generalize (m * 2 ^ (e - g).toNat) % (2 ^ 52 * 2 ^ ((-52) - g).toNat) = j at *
  obtain ⟨t, ht⟩ := grid (g + 1074).toNat j hjle
  have hs := shift_one j g 1074 (by omega)
  have hp := shift_pos j 1 g (by decide)
  have hR : Right (fmod x c1) a (j * 2 ^ (g + 1074).toNat) 1 := by
    rw [hf]
    unfold ofBin
    refine ofFrac_right hp ?_ (by decide)
    rw [Nat.mul_one]
    exact hs
  have hK : (val x).natAbs % KN < KN := Nat.mod_lt _ KN_pos
  have hlt : j * 2 ^ (g + 1074).toNat ≤ 2 ^ 1974 := by
    rw [eq3]
    have h1 : KN ≤ 2 ^ 1974 := by rw [KN_eq]; exact Nat.pow_le_pow_right (by decide) (by decide)
    exact Nat.le_trans (Nat.le_of_lt hK) h1
  have := exact_ri hR hlt ht
  rw [eq3] at this
  exact this
end
end
section
section
open PySem PySem.Flt PySem.Float64
/-- x is X within e -/
structure Ap (x : UInt64) (X e : Rat) : Prop where
  fin : Fin x
  lo : X - e ≤ fv x
  hi : fv x ≤ X + e
theorem rabs_mul {a b A B : Rat} (ha : -A ≤ a) (ha' : a ≤ A) (hb : -B ≤ b) (hb' : b ≤ B) : -(A * B) ≤ a * b ∧ a * b ≤ A * B := by
  have h1 := Rat.mul_nonneg (a := A - a) (b := B - b) (by grind) (by grind)
  have h2 := Rat.mul_nonneg (a := A + a) (b := B + b) (by grind) (by grind)
  have h3 := Rat.mul_nonneg (a := A - a) (b := B + b) (by grind) (by grind)
  have h4 := Rat.mul_nonneg (a := A + a) (b := B - b) (by grind) (by grind)
  constructor <;> grind
theorem p4 : (2 : Rat) ^ 4 = 16 := by decide +kernel
theorem p54 : (2 : Rat) ^ 54 = 18014398509481984 := by decide +kernel
theorem p900 : (1267650600228229401496703205376 : Rat) ≤ 2 ^ 900 := by decide +kernel
theorem big_of {X : Rat} (h1 : -1267650600228229401496703205376 ≤ X) (h2 : X ≤ 1267650600228229401496703205376) : Big X := by
  have := p900
  exact ⟨by grind, by grind⟩
noncomputable abbrev uu : Rat := 1 / 1125899906842624
theorem rnd_ap {X : Rat} {r : UInt64} (h : Rnd X r) (h1 : -16 ≤ X) (h2 : X ≤ 16) : Ap r X uu := by
  obtain ⟨a, b⟩ := h.err 4 (by rw [p4]; exact h1) (by rw [p4]; exact h2)
  rw [p4, p54] at a b
  exact ⟨h.fin, by unfold uu; grind, by unfold uu; grind⟩
theorem Ap.wide {x : UInt64} {X e f : Rat} (h : Ap x X e) (hf : e ≤ f) : Ap x X f := ⟨h.fin, by have := h.lo; grind, by have := h.hi; grind⟩
theorem ap_add {x y : UInt64} {X Y e f g : Rat} (hx : Ap x X e) (hy : Ap y Y f) (h1 : -15 ≤ X + Y) (h2 : X + Y ≤ 15) (hs : e + f ≤ 1) (hg : e + f + uu ≤ g) : Ap (add x y) (X + Y) g := by
  have := hx.lo; have := hx.hi; have := hy.lo; have := hy.hi
  have h := rnd_ap (add_rnd hx.fin hy.fin (big_of (by grind) (by grind))) (by grind) (by grind)
  have := h.lo; have := h.hi
  exact ⟨h.fin, by grind, by grind⟩
theorem ap_sub {x y : UInt64} {X Y e f g : Rat} (hx : Ap x X e) (hy : Ap y Y f) (h1 : -15 ≤ X - Y) (h2 : X - Y ≤ 15) (hs : e + f ≤ 1) (hg : e + f + uu ≤ g) : Ap (sub x y) (X - Y) g := by
  have := hx.lo; have := hx.hi; have := hy.lo; have := hy.hi
  have h := rnd_ap (sub_rnd hx.fin hy.fin (big_of (by grind) (by grind))) (by grind) (by grind)
  have := h.lo; have := h.hi
  exact ⟨h.fin, by grind, by grind⟩
theorem ap_mul {x y : UInt64} {X Y e f g : Rat} (A B : Rat) (hx : Ap x X e) (hy : Ap y Y f) (hX : -A ≤ X) (hX' : X ≤ A) (hY : -B ≤ Y) (hY' : Y ≤ B) (hs : A * B + (A * f + B * e + e * f) ≤ 16) (hg : A * f + B * e + e * f + uu ≤ g) : Ap (mul x y) (X * Y) g := by
  have a1 := hx.lo; have a2 := hx.hi; have a3 := hy.lo; have a4 := hy.hi
  have m1 := rabs_mul hX hX' hY hY'
  have m2 := rabs_mul (a := X) (b := fv y - Y) hX hX' (show -f ≤ _ by grind) (by grind)
  have m3 := rabs_mul (a := fv x - X) (b := Y) (A := e) (by grind) (by grind) hY hY'
  have m4 := rabs_mul (a := fv x - X) (b := fv y - Y) (A := e) (B := f) (by grind) (by grind) (by grind) (by grind)
  have eq : fv x * fv y = X * Y + X * (fv y - Y) + (fv x - X) * Y + (fv x - X) * (fv y - Y) := by grind
  have h := rnd_ap (mul_rnd hx.fin hy.fin (big_of (by grind) (by grind))) (by grind) (by grind)
  have := h.lo; have := h.hi
  exact ⟨h.fin, by grind, by grind⟩
end
end
section
section
open PySem PySem.Flt PySem.Float64
theorem fv_c1 : fv c1 = 1 := by
  have := const_fv (c := c1) (n := 1) (d := 1) (by decide) (by kernel_rfl)
  rw [this]; decide +kernel
theorem fv_z : fv 0 = 0 := by
  have := const_fv (c := 0) (n := 0) (d := 1) (by decide) (by kernel_rfl)
  rw [this]; decide +kernel
theorem fin_c1 : Fin c1 := ⟨_, _, _, decode_c1⟩
theorem fin_z : Fin 0 := ⟨false, 0, -1074, by kernel_rfl⟩
theorem lt_flt (x y : UInt64) : lt x y = flt x y := rfl
theorem mod1 {x : UInt64} (hx : Fin x) : ∃ k : Int, Ap (divmod x c1).2 (fv x - k) uu ∧ 0 ≤ fv (divmod x c1).2 ∧ fv (divmod x c1).2 ≤ 1 ∧ 0 ≤ fv x - k ∧ fv x - k < 1 ∧ (0 ≤ fv x → fv (divmod x c1).2 = fv x - k) := by
  obtain ⟨a, m, e, hd⟩ := hx
  obtain ⟨hf, hv⟩ := fmod_one hd
  have hs := val_sgn hd
  have hK := KN_pos
  have hku := ku_mul
  have hkp := ku_pos
  have hrem : (val x).natAbs % KN < KN := Nat.mod_lt _ hK
  have hdm := Nat.div_add_mod (val x).natAbs KN
  generalize hR : (val x).natAbs % KN = rem at *
  generalize hQ : (val x).natAbs / KN = quo at *
  have hxv : val x = sgn a (KN * quo) + sgn a rem := by
    rw [hs, ← hdm]; unfold sgn; cases a
    · simp
    · simp only [if_true]; omega
  have hfx : fv x = (sgn a quo : Rat) + fv (fmod x c1) := by
    unfold fv
    rw [hxv, hv, Rat.intCast_add]
    have : ((sgn a (KN * quo) : Int) : Rat) = (sgn a quo : Rat) * (KN : Rat) := by
      rw [show sgn a (KN * quo) = sgn a quo * (KN : Int) by rw [Nat.mul_comm, sgn_mul], Rat.intCast_mul, Rat.intCast_natCast]
    rw [this]
    generalize (KN : Rat) = k at *
    grind
  have hlt1 : fv (fmod x c1) < 1 := by
    rw [← fv_c1, fv_lt, hv]
    have : val c1 = (KN : Int) := by rw [KN_eq]; kernel_rfl
    rw [this]; unfold sgn; split <;> omega
  have hgt1 : -1 < fv (fmod x c1) := by
    have h1 : -(KN : Int) < val (fmod x c1) := by rw [hv]; unfold sgn; split <;> omega
    have h2 : ((-(KN : Int) : Int) : Rat) < (val (fmod x c1) : Rat) := Rat.intCast_lt_intCast.mpr h1
    rw [Rat.intCast_neg, Rat.intCast_natCast] at h2
    have := Rat.mul_lt_mul_of_pos_right h2 hkp
    unfold fv
    generalize (KN : Rat) = k at *
    grind
  have hsg : (a = false → 0 ≤ fv (fmod x c1)) ∧ (a = true → fv (fmod x c1) ≤ 0) := by
    constructor
    · intro ha; rw [← fv_z, fv_le, hv, ha]
      have : val 0 = 0 := by kernel_rfl
      rw [this]; unfold sgn; simp
    · intro ha; rw [← fv_z, fv_le, hv, ha]
      have : val 0 = 0 := by kernel_rfl
      rw [this]; unfold sgn; simp
  have hsx : (a = true → fv x ≤ 0) := by
    intro ha; rw [hfx, ha]
    have h1 := hsg.2 ha
    have h2 : ((sgn true quo : Int) : Rat) ≤ 0 := by
      rw [← Rat.intCast_zero, Rat.intCast_le_intCast]; unfold sgn; simp
    grind
  have hdef : (divmod x c1).2 = if isZero (fmod x c1) then copysign (zero false) c1 else if lt c1 (zero false) != lt (fmod x c1) (zero false) then add (fmod x c1) c1 else fmod x c1 := by
    unfold divmod
    simp only
    split
    · rfl
    · split <;> rfl
  have hz0 : zero false = 0 := by kernel_rfl
  have hcs : copysign (zero false) c1 = 0 := by kernel_rfl
  have hl1 : lt c1 (zero false) = false := by kernel_rfl
  have hu : (0 : Rat) ≤ uu := by decide +kernel
  rw [hcs, hl1, hz0, lt_flt] at hdef
  by_cases hz : isZero (fmod x c1) = true
  · rw [hz] at hdef
    simp only [if_true] at hdef
    have h0 := (isZero_iff hf).mp hz
    refine ⟨sgn a quo, ?_⟩
    rw [hdef, fv_z]
    refine ⟨⟨fin_z, ?_, ?_⟩, ?_, ?_, ?_, ?_, ?_⟩ <;> (try rw [fv_z]) <;> grind
  · simp only [hz] at hdef
    have hnz : fv (fmod x c1) ≠ 0 := fun h => hz ((isZero_iff hf).mpr h)
    by_cases hneg : flt (fmod x c1) 0 = true
    · rw [hneg] at hdef
      have hdef : (divmod x c1).2 = add (fmod x c1) c1 := by simpa using hdef
      have hlt := (flt_iff hf fin_z).mp hneg
      rw [fv_z] at hlt
      have hr := add_rnd hf fin_c1 (big_of (by rw [fv_c1]; grind) (by rw [fv_c1]; grind))
      have hrr := hr
      rw [fv_c1] at hr
      have hap := rnd_ap hr (by grind) (by grind)
      have h0 := hr.dn 0 fin_z (by rw [fv_z]; grind)
      have h1 := hr.up c1 fin_c1 (by rw [fv_c1]; grind)
      rw [fv_z] at h0
      rw [fv_c1] at h1
      have ha : a = true := by
        cases a
        · have := hsg.1 rfl; exfalso; grind
        · rfl
      have hx0 := hsx ha
      refine ⟨sgn a quo - 1, ?_⟩
      rw [hdef, Rat.intCast_sub]
      have e1 : ((1 : Int) : Rat) = 1 := rfl
      rw [e1]
      refine ⟨⟨hap.fin, ?_, ?_⟩, h0, h1, ?_, ?_, ?_⟩
      · have := hap.lo; grind
      · have := hap.hi; grind
      · grind
      · grind
      · intro hx; exfalso
        have : fv x < 0 := by
          rw [hfx, ha]
          have h2 : ((sgn true quo : Int) : Rat) ≤ 0 := by
            rw [← Rat.intCast_zero, Rat.intCast_le_intCast]; unfold sgn; simp
          grind
        grind
    · have hneg' : flt (fmod x c1) 0 = false := by cases h : flt (fmod x c1) 0; rfl; exact absurd h hneg
      rw [hneg'] at hdef
      have hdef : (divmod x c1).2 = fmod x c1 := by simpa using hdef
      have hge : 0 ≤ fv (fmod x c1) := by
        rcases Rat.le_total (a := 0) (b := fv (fmod x c1)) with h | h
        · exact h
        · exfalso
          apply hneg
          rw [flt_iff hf fin_z, fv_z]; grind
      refine ⟨sgn a quo, ?_⟩
      rw [hdef]
      refine ⟨⟨hf, ?_, ?_⟩, ?_, ?_, ?_, ?_, ?_⟩ <;> grind
theorem ap_div {x y : UInt64} {Z Y e f g : Rat} (A lo d : Rat) (hx : Ap x (Z * Y) e) (hy : Ap y Y f) (hZ : -A ≤ Z) (hZ' : Z ≤ A) (hl : lo ≤ Y) (h0 : 0 < lo) (hf : f ≤ lo / 2) (hd : e + A * f ≤ d * (lo / 2)) (hs : A + d ≤ 16) (hd0 : 0 ≤ d) (hg : d + uu ≤ g) : Ap (div x y) Z g := by
  have a1 := hx.lo; have a2 := hx.hi; have a3 := hy.lo; have a4 := hy.hi
  have hyp : lo / 2 ≤ fv y := by grind
  have hy0 : 0 < fv y := by grind
  have hne : fv y ≠ 0 := by grind
  have hq : fv x / fv y * fv y = fv x := by grind
  have m2 := rabs_mul (a := Z) (b := Y - fv y) (A := A) (B := f) (by grind) (by grind) (by grind) (by grind)
  have e1 : (fv x / fv y - Z) * fv y = (fv x - Z * Y) + Z * (Y - fv y) := by grind
  have k1 : d * (lo / 2) ≤ d * fv y := Rat.mul_le_mul_of_nonneg_left hyp hd0
  have b1 : fv x / fv y - Z ≤ d := by
    apply Rat.le_of_mul_le_mul_right _ hy0
    rw [e1]; grind
  have b2 : -d ≤ fv x / fv y - Z := by
    apply Rat.le_of_mul_le_mul_right _ hy0
    rw [e1]; grind
  have h := rnd_ap (div_rnd hx.fin hy.fin hne (big_of (by grind) (by grind))) (by grind) (by grind)
  have := h.lo; have := h.hi
  exact ⟨h.fin, by grind, by grind⟩
end
end
section
section
open PySem PySem.Flt PySem.Float64
theorem rnd_apk {X : Rat} {r : UInt64} (k : Nat) (B u : Rat) (h : Rnd X r) (hB : (2 : Rat) ^ k = B) (h1 : -B ≤ X) (h2 : X ≤ B) (hu : B / 18014398509481984 ≤ u) : Ap r X u := by
  obtain ⟨a, b⟩ := h.err k (by rw [hB]; exact h1) (by rw [hB]; exact h2)
  rw [hB, p54] at a b
  exact ⟨h.fin, by grind, by grind⟩
theorem round_ap {x : UInt64} {N : Int} {g : Rat} (h : Ap x (N : Rat) g) (hg : g < 1 / 2) : toInt nearestOf x = N := by
  refine round_near h.fin ?_
  have hK := KN_posR
  have hku := ku_mul
  have hkp := ku_pos
  have h1 := h.lo
  have h2 := h.hi
  have e1 : ((val x - N * (KN : Int) : Int) : Rat) = (fv x - N) * (KN : Rat) := by
    rw [Rat.intCast_sub, Rat.intCast_mul, Rat.intCast_natCast]; unfold fv
    generalize (KN : Rat) = k at *
    grind
  have l1 : (fv x - N) * (KN : Rat) < 1 / 2 * (KN : Rat) := Rat.mul_lt_mul_of_pos_right (by grind) hK
  have l2 : (-(1 / 2)) * (KN : Rat) < (fv x - N) * (KN : Rat) := Rat.mul_lt_mul_of_pos_right (by grind) hK
  rw [← e1] at l1 l2
  generalize hz : (val x - N * (KN : Int)) = z at *
  have c1 : ((2 * z : Int) : Rat) < (((KN : Nat) : Int) : Rat) := by
    rw [Rat.intCast_mul, Rat.intCast_natCast]
    have : ((2 : Int) : Rat) = 2 := rfl
    rw [this]; grind
  have c2 : ((-((KN : Nat) : Int) : Int) : Rat) < ((2 * z : Int) : Rat) := by
    rw [Rat.intCast_mul, Rat.intCast_neg, Rat.intCast_natCast]
    have : ((2 : Int) : Rat) = 2 := rfl
    rw [this]; grind
  rw [Rat.intCast_lt_intCast] at c1 c2
  omega
end
end
section
section
/-- the trapezoid -/
noncomputable def tr (m : Rat) : Rat := if m ≤ 0 then 0 else if m ≤ 1 then m else if m ≤ 3 then 1 else if m ≤ 4 then 4 - m else 0
/-- with the period 6 -/
noncomputable def tz (y : Rat) : Rat := tr (y - 6 * ((y / 6).floor : Rat))
theorem fl6 (y : Rat) : 0 ≤ y - 6 * ((y / 6).floor : Rat) ∧ y - 6 * ((y / 6).floor : Rat) < 6 := by
  have h1 : ((y / 6).floor : Rat) ≤ y / 6 := Rat.floor_le _
  have h2 : y / 6 < ((y / 6).floor : Rat) + 1 := by
    have := Rat.lt_floor_add_one (y / 6)
    rw [Rat.intCast_add] at this; exact this
  constructor <;> grind
theorem int_lt_of {a b : Int} (h : (a : Rat) < (b : Rat) + 1) : a ≤ b := by
  have : ((a : Int) : Rat) < ((b + 1 : Int) : Rat) := by rw [Rat.intCast_add]; exact h
  have := Rat.intCast_lt_intCast.mp this
  omega
theorem tr06 : tr 6 = tr 0 := by decide +kernel
theorem tz_at {y : Rat} (k : Int) (h0 : 0 ≤ y - 6 * (k : Rat)) (h6 : y - 6 * (k : Rat) ≤ 6) : tz y = tr (y - 6 * (k : Rat)) := by
  obtain ⟨a, b⟩ := fl6 y
  unfold tz
  generalize (y / 6).floor = l at *
  have h1 : l ≤ k + 1 := int_lt_of (by rw [Rat.intCast_add]; have : ((1 : Int) : Rat) = 1 := rfl; grind)
  have h2 : k ≤ l := int_lt_of (by grind)
  rcases Int.lt_or_le k l with h | h
  · have : l = k + 1 := by omega
    subst this
    rw [Rat.intCast_add] at a b ⊢
    have e1 : ((1 : Int) : Rat) = 1 := rfl
    rw [e1] at *
    unfold tr; grind
  · have : l = k := by omega
    subst this; rfl
theorem tz_add6 (y : Rat) (k : Int) : tz (y + 6 * (k : Rat)) = tz y := by
  obtain ⟨a, b⟩ := fl6 y
  generalize (y / 6).floor = l at *
  rw [tz_at (y := y) l a (by grind), tz_at (y := y + 6 * (k : Rat)) (l + k) (by rw [Rat.intCast_add]; grind) (by rw [Rat.intCast_add]; grind)]
  rw [Rat.intCast_add]; congr 1; grind
theorem tr_b (m : Rat) : 0 ≤ tr m ∧ tr m ≤ 1 := by unfold tr; grind
theorem tz_b (y : Rat) : 0 ≤ tz y ∧ tz y ≤ 1 := tr_b _
noncomputable def mnR (a b : Rat) : Rat := if a ≤ b then a else b
noncomputable def mxR (a b : Rat) : Rat := if a ≤ b then b else a
theorem mn_lip {a b c d e : Rat} (h1 : a - c ≤ e) (h2 : b - d ≤ e) : mnR a b - mnR c d ≤ e := by unfold mnR; split <;> split <;> grind
theorem mx_lip {a b c d e : Rat} (h1 : a - c ≤ e) (h2 : b - d ≤ e) : mxR a b - mxR c d ≤ e := by unfold mxR; split <;> split <;> grind
theorem tr_mn (m : Rat) : tr m = mxR 0 (mnR (mnR m 1) (4 - m)) := by unfold tr mxR mnR; grind
theorem tr_lip {a b e : Rat} (h1 : a - b ≤ e) (h2 : b - a ≤ e) : tr a - tr b ≤ e := by
  have e0 : 0 ≤ e := by grind
  rw [tr_mn, tr_mn]
  exact mx_lip (by rw [Rat.sub_self]; exact e0) (mn_lip (mn_lip h1 (by rw [Rat.sub_self]; exact e0)) (by grind))
theorem tr_zero : tr 0 = 0 := by decide +kernel
theorem tr_over {u v e : Rat} (hu : u ≤ 6) (hv : 0 ≤ v) (h : v + 6 - u ≤ e) : tr u - tr v ≤ e ∧ tr v - tr u ≤ e := by
  have a := tr_lip (a := u) (b := 6) (e := 6 - u) (by grind) (by grind)
  have b := tr_lip (a := 6) (b := u) (e := 6 - u) (by grind) (by grind)
  have c := tr_lip (a := 0) (b := v) (e := v) (by grind) (by grind)
  have d := tr_lip (a := v) (b := 0) (e := v) (by grind) (by grind)
  rw [tr06, tr_zero] at a b
  rw [tr_zero] at c d
  constructor <;> grind
theorem tz_lip {x y e : Rat} (h1 : x - y ≤ e) (h2 : y - x ≤ e) : tz x - tz y ≤ e := by
  obtain ⟨a, b⟩ := fl6 x
  obtain ⟨c, d⟩ := fl6 y
  unfold tz
  generalize (x / 6).floor = k at *
  generalize (y / 6).floor = l at *
  have b1 := tr_b (x - 6 * (k : Rat))
  have b2 := tr_b (y - 6 * (l : Rat))
  have e1 : ((1 : Int) : Rat) = 1 := rfl
  have e2 : ((2 : Int) : Rat) = 2 := rfl
  rcases Int.lt_trichotomy k l with h | h | h
  · rcases Int.lt_or_le (k + 1) l with h3 | h3
    · have := Rat.intCast_le_intCast.mpr (show k + 2 ≤ l by omega)
      rw [Rat.intCast_add, e2] at this
      clear a d
      grind
    · have : l = k + 1 := by omega
      subst this
      rw [Rat.intCast_add, e1] at *
      clear b1 b2 a d
      exact (tr_over (Rat.le_of_lt b) c (by grind)).1
  · subst h; exact tr_lip (by grind) (by grind)
  · rcases Int.lt_or_le (l + 1) k with h3 | h3
    · have := Rat.intCast_le_intCast.mpr (show l + 2 ≤ k by omega)
      rw [Rat.intCast_add, e2] at this
      clear b c
      grind
    · have : k = l + 1 := by omega
      subst this
      rw [Rat.intCast_add, e1] at *
      clear b1 b2 b c
      exact (tr_over (Rat.le_of_lt d) a (by grind)).2
end
end
section
section
open PySem PySem.Flt PySem.Float64
theorem fv_c2 : fv c2 = 2 := by
  have := const_fv (c := c2) (n := 2) (d := 1) (by decide) (by kernel_rfl)
  rw [this]; decide +kernel
theorem fv_c4 : fv c4 = 4 := by
  have := const_fv (c := c4) (n := 4) (d := 1) (by decide) (by kernel_rfl)
  rw [this]; decide +kernel
theorem fv_c6 : fv c6 = 6 := by
  have := const_fv (c := c6) (n := 6) (d := 1) (by decide) (by kernel_rfl)
  rw [this]; decide +kernel
theorem fv_half : fv cHalf = 1 / 2 := by
  have := const_fv (c := cHalf) (n := 1) (d := 2) (by decide) (by kernel_rfl)
  rw [this]; decide +kernel
theorem fin_of {x : UInt64} (h : isFinite x = true) : Fin x := by
  unfold isFinite at h
  split at h
  · exact ⟨_, _, _, by assumption⟩
  · cases h
theorem fin_c2 : Fin c2 := fin_of (by kernel_rfl)
theorem fin_c4 : Fin c4 := fin_of (by kernel_rfl)
theorem fin_c6 : Fin c6 := fin_of (by kernel_rfl)
theorem fin_half : Fin cHalf := fin_of (by kernel_rfl)
theorem ap_self {x : UInt64} (h : Fin x) : Ap x (fv x) 0 := ⟨h, by grind, by grind⟩
theorem ofInt_exact {i : Int} (h : i.natAbs ≤ 2 ^ 53) : Fin (ofInt i) ∧ fv (ofInt i) = (i : Rat) := by
  have hr := ofInt_right i
  obtain ⟨t, ht⟩ := grid 1074 i.natAbs h
  have := exact_ri hr (by
    calc i.natAbs * 2 ^ 1074 ≤ 2 ^ 53 * 2 ^ 1074 := Nat.mul_le_mul_right _ h
      _ ≤ 2 ^ 1974 := by rw [← Nat.pow_add]; exact Nat.pow_le_pow_right (by decide) (by decide)) ht
  refine ⟨this.1, ?_⟩
  have e1 : val (ofInt i) = i * (KN : Int) := by
    rw [this.2, sgn_mul, sgn_self, KN_eq]
  unfold fv
  rw [e1, Rat.intCast_mul, Rat.intCast_natCast]
  have := ku_mul
  generalize (KN : Rat) = k at *
  grind
/-- rounding keeps between two floats -/
theorem rnd_le {X : Rat} {r y : UInt64} (h : Rnd X r) (hy : Fin y) (hle : X ≤ fv y) : fv r ≤ fv y := h.up y hy hle
theorem rnd_ge {X : Rat} {r y : UInt64} (h : Rnd X r) (hy : Fin y) (hle : fv y ≤ X) : fv y ≤ fv r := h.dn y hy hle
theorem unit_sub {x : UInt64} (hx : Fin x) (x0 : 0 ≤ fv x) (x1 : fv x ≤ 1) : Ap (sub c1 x) (1 - fv x) uu ∧ 0 ≤ fv (sub c1 x) ∧ fv (sub c1 x) ≤ 1 := by
  have hr := sub_rnd fin_c1 hx (big_of (by rw [fv_c1]; grind) (by rw [fv_c1]; grind))
  rw [fv_c1] at hr
  have h1 := rnd_le hr fin_c1 (by rw [fv_c1]; grind)
  have h0 := rnd_ge hr fin_z (by rw [fv_z]; grind)
  rw [fv_z] at h0
  rw [fv_c1] at h1
  exact ⟨rnd_ap hr (by grind) (by grind), h0, h1⟩
theorem uu0 : (0 : Rat) ≤ uu := by decide +kernel
/-- the sector and what is left -/
theorem sec_spec {h : UInt64} (hh : Fin h) (h0 : 0 ≤ fv h) (h1 : fv h ≤ 5) : Fin (mul h c6) ∧ (sec h).natAbs ≤ 2 ^ 53 ∧ Fin (frc h) ∧ 0 ≤ fv (frc h) ∧ fv (frc h) ≤ 1 ∧ 0 ≤ sec h ∧ -(3 * uu) ≤ (sec h : Rat) + fv (frc h) - 6 * fv h ∧ (sec h : Rat) + fv (frc h) - 6 * fv h ≤ 3 * uu := by
  have hr := mul_rnd hh fin_c6 (big_of (by rw [fv_c6]; grind) (by rw [fv_c6]; grind))
  rw [fv_c6] at hr
  have ha := rnd_apk 5 32 (2 * uu) hr (by decide +kernel) (by grind) (by grind) (by decide +kernel)
  have hp := rnd_ge hr fin_z (by rw [fv_z]; grind)
  rw [fv_z] at hp
  have hv0 : 0 ≤ val (mul h c6) := by
    have : fv 0 ≤ fv (mul h c6) := by rw [fv_z]; exact hp
    rw [fv_le] at this
    have e : val 0 = 0 := by kernel_rfl
    rw [e] at this; exact this
  obtain ⟨t1, t2⟩ := trunc_spec hr.fin hv0
  have hku := ku_mul
  have hkp := ku_pos
  have hK := KN_posR
  have s1 : (sec h : Rat) ≤ fv (mul h c6) := by
    have : ((sec h * (KN : Int) : Int) : Rat) ≤ (val (mul h c6) : Rat) := Rat.intCast_le_intCast.mpr t1
    rw [Rat.intCast_mul, Rat.intCast_natCast] at this
    have := Rat.mul_le_mul_of_nonneg_right this (Rat.le_of_lt hkp)
    rw [Rat.mul_assoc, Rat.mul_comm (KN : Rat) ku, hku, Rat.mul_one] at this
    exact this
  have s2 : fv (mul h c6) < (sec h : Rat) + 1 := by
    have : (val (mul h c6) : Rat) < (((sec h + 1) * (KN : Int) : Int) : Rat) := Rat.intCast_lt_intCast.mpr t2
    rw [Rat.intCast_mul, Rat.intCast_natCast, Rat.intCast_add] at this
    have := Rat.mul_lt_mul_of_pos_right this hkp
    have e1 : ((1 : Int) : Rat) = 1 := rfl
    rw [e1, Rat.mul_assoc, Rat.mul_comm (KN : Rat) ku, hku, Rat.mul_one] at this
    exact this
  have hi := ha.hi
  have hlo := ha.lo
  have usm : uu ≤ 1 := by decide +kernel
  have n0 : 0 ≤ sec h := by
    have : ((0 : Int) : Rat) < (sec h : Rat) + 1 := by have e : ((0 : Int) : Rat) = 0 := rfl; rw [e]; grind
    exact int_lt_of this
  have n1 : sec h ≤ 40 := by
    apply Rat.intCast_le_intCast.mp
    have e : ((40 : Int) : Rat) = 40 := rfl
    rw [e]; grind
  have hn : (sec h).natAbs ≤ 2 ^ 53 := by
    have : (sec h).natAbs ≤ 40 := by omega
    exact Nat.le_trans this (by decide)
  obtain ⟨io, iv⟩ := ofInt_exact hn
  have hf := sub_rnd hr.fin io (big_of (by rw [iv]; grind) (by rw [iv]; grind))
  rw [iv] at hf
  have f0 := rnd_ge hf fin_z (by rw [fv_z]; grind)
  have f1 := rnd_le hf fin_c1 (by rw [fv_c1]; grind)
  rw [fv_z] at f0
  rw [fv_c1] at f1
  have fa := rnd_ap hf (by grind) (by grind)
  have := fa.lo
  have := fa.hi
  refine ⟨hr.fin, hn, fa.fin, f0, f1, n0, ?_, ?_⟩ <;> (show _ ≤ _; unfold frc; grind)
/-- one component's place -/
theorem tz_near {i j : Int} {φ y c m e : Rat} (k : Int) (hi : i = 6 * k + j) (h1 : -e ≤ (i : Rat) + φ - y) (h2 : (i : Rat) + φ - y ≤ e) (q : Int) (hm : (j : Rat) + φ + c - 6 * (q : Rat) = m) (m0 : 0 ≤ m) (m6 : m ≤ 6) : -e ≤ tz (y + c) - tr m ∧ tz (y + c) - tr m ≤ e := by
  subst hi
  have e1 : ((6 * k + j : Int) : Rat) = 6 * (k : Rat) + (j : Rat) := by rw [Rat.intCast_add, Rat.intCast_mul]; rfl
  have hz : tz (((6 * k + j : Int) : Rat) + φ + c) = tr m := by
    rw [tz_at (k + q) (by rw [e1, Rat.intCast_add]; grind) (by rw [e1, Rat.intCast_add]; grind), e1, Rat.intCast_add]
    congr 1; grind
  rw [← hz]
  have l1 := tz_lip (x := y + c) (y := ((6 * k + j : Int) : Rat) + φ + c) (e := e) (by grind) (by grind)
  have l2 := tz_lip (y := y + c) (x := ((6 * k + j : Int) : Rat) + φ + c) (e := e) (by grind) (by grind)
  constructor <;> grind
/-- the trapezoid in each sector -/
theorem tr_s0 {x : Rat} (h0 : 0 ≤ x) (h1 : x ≤ 1) : tr (((0 : Int) : Rat) + x) = x := by
  rw [show ((0 : Int) : Rat) = 0 from rfl]; unfold tr; grind
theorem tr_s1 {x : Rat} (h0 : 0 ≤ x) (h1 : x ≤ 1) : tr (((1 : Int) : Rat) + x) = 1 := by
  rw [show ((1 : Int) : Rat) = 1 from rfl]; unfold tr; grind
theorem tr_s2 {x : Rat} (h0 : 0 ≤ x) (h1 : x ≤ 1) : tr (((2 : Int) : Rat) + x) = 1 := by
  rw [show ((2 : Int) : Rat) = 2 from rfl]; unfold tr; grind
theorem tr_s3 {x : Rat} (h0 : 0 ≤ x) (h1 : x ≤ 1) : tr (((3 : Int) : Rat) + x) = 1 - x := by
  rw [show ((3 : Int) : Rat) = 3 from rfl]; unfold tr; grind
theorem tr_s4 {x : Rat} (h0 : 0 ≤ x) (h1 : x ≤ 1) : tr (((4 : Int) : Rat) + x) = 0 := by
  rw [show ((4 : Int) : Rat) = 4 from rfl]; unfold tr; grind
theorem tr_s5 {x : Rat} (h0 : 0 ≤ x) (h1 : x ≤ 1) : tr (((5 : Int) : Rat) + x) = 0 := by
  rw [show ((5 : Int) : Rat) = 5 from rfl]; unfold tr; grind
theorem tz_sec {i j n q c : Int} {x y e T : Rat} (k : Int) (h0 : 0 ≤ x) (h1 : x ≤ 1) (h2 : -e ≤ (i : Rat) + x - y) (h3 : (i : Rat) + x - y ≤ e) (hi : i = 6 * k + j) (hn : j + c = 6 * q + n) (n0 : 0 ≤ n) (n5 : n ≤ 5) (hT : tr ((n : Rat) + x) = T) :
    -e ≤ tz (y + (c : Rat)) - T ∧ tz (y + (c : Rat)) - T ≤ e := by
  rw [← hT]
  have a0 := Rat.intCast_le_intCast.mpr n0
  have a5 := Rat.intCast_le_intCast.mpr n5
  have e0 : ((0 : Int) : Rat) = 0 := rfl
  have e5 : ((5 : Int) : Rat) = 5 := rfl
  have e6 : ((6 : Int) : Rat) = 6 := rfl
  rw [e0] at a0; rw [e5] at a5
  have hc := congrArg (fun z : Int => (z : Rat)) hn
  simp only [Rat.intCast_add, Rat.intCast_mul, e6] at hc
  exact tz_near k hi h2 h3 q (by grind) (by grind) (by grind)
/-- z is 1 - x but for a rounding -/
noncomputable abbrev Ap2 (z x : Rat) : Prop := -uu ≤ z - (1 - x) ∧ z - (1 - x) ≤ uu
end
end
section
section
open PySem PySem.Flt PySem.Float64
theorem fin_six : Fin cSixth := fin_of (by kernel_rfl)
theorem fin_third : Fin cThird := fin_of (by kernel_rfl)
theorem fin_two : Fin cTwoThird := fin_of (by kernel_rfl)
theorem fv_six : fv cSixth = 6004799503160661 / 36028797018963968 := by
  have := const_fv (c := cSixth) (n := 6004799503160661) (d := 36028797018963968) (by decide) (by kernel_rfl)
  rw [this]; decide +kernel
theorem fv_third : fv cThird = 6004799503160661 / 18014398509481984 := by
  have := const_fv (c := cThird) (n := 6004799503160661) (d := 18014398509481984) (by decide) (by kernel_rfl)
  rw [this]; decide +kernel
theorem fv_two : fv cTwoThird = 6004799503160661 / 9007199254740992 := by
  have := const_fv (c := cTwoThird) (n := 6004799503160661) (d := 9007199254740992) (by decide) (by kernel_rfl)
  rw [this]; decide +kernel
theorem not_flt {x y : UInt64} (hx : Fin x) (hy : Fin y) (h : ¬ flt x y = true) : fv y ≤ fv x := by
  rw [flt_iff hx hy] at h; grind
theorem not_fle {x y : UInt64} (hx : Fin x) (hy : Fin y) (h : ¬ fle x y = true) : fv y < fv x := by
  rw [fle_iff hx hy] at h; grind
theorem lerp {r : UInt64} {M1 D t t' e g : Rat} (h : Ap r (M1 + D * t) e) (hD : -3 ≤ D) (hD' : D ≤ 3) (f : Rat) (h1 : -f ≤ t - t') (h2 : t - t' ≤ f) (hg : e + 3 * f ≤ g) : Ap r (M1 + D * t') g := by
  have m := rabs_mul (a := D) (b := t - t') (A := 3) (B := f) hD hD' h1 h2
  have := h.lo; have := h.hi
  exact ⟨h.fin, by grind, by grind⟩
theorem fv6_ap {m1 m2 hue : UInt64} (h1 : Fin m1) (h2 : Fin m2) (hh : Fin hue) (a0 : -1 ≤ fv m1) (a1 : fv m1 ≤ 2) (b0 : -1 ≤ fv m2) (b1 : fv m2 ≤ 2) :
    Ap (fv6 m1 m2 hue) (fv m1 + (fv m2 - fv m1) * tz (6 * fv hue)) (40 * uu) := by
  have u0 := uu0
  have us : uu ≤ 1 / 1000000 := by decide +kernel
  have f6 := fv_six
  have f3 := fv_two
  have fh := fv_half
  obtain ⟨k, pa, p0, p1, _, _, _⟩ := mod1 hh
  generalize hp : (divmod hue c1).2 = p at *
  have pf := pa.fin
  have l1 := pa.lo
  have l2 := pa.hi
  have hd : Ap (sub m2 m1) (fv m2 - fv m1) uu := (ap_sub (ap_self h2) (ap_self h1) (by grind) (by grind) (by grind) (g := uu) (by grind))
  have hz1 : tz (6 * fv p) = tr (6 * fv p) := by
    have := tz_at (y := 6 * fv p) 0 (by have e : ((0 : Int) : Rat) = 0 := rfl; rw [e]; grind) (by have e : ((0 : Int) : Rat) = 0 := rfl; rw [e]; grind)
    rw [this]; congr 1
    have e : ((0 : Int) : Rat) = 0 := rfl
    rw [e]; grind
  have hz2 : tz (6 * fv hue + 6 * ((-k : Int) : Rat)) = tz (6 * fv hue) := tz_add6 _ _
  rw [Rat.intCast_neg] at hz2
  have z1 := tz_lip (x := 6 * fv p) (y := 6 * fv hue + 6 * -(k : Rat)) (e := 6 * uu) (by grind) (by grind)
  have z2 := tz_lip (y := 6 * fv p) (x := 6 * fv hue + 6 * -(k : Rat)) (e := 6 * uu) (by grind) (by grind)
  rw [hz2, hz1] at z1 z2
  -- by the ways
  have main : ∃ t, Ap (fv6 m1 m2 hue) (fv m1 + (fv m2 - fv m1) * t) (16 * uu) ∧ -uu ≤ t - tr (6 * fv p) ∧ t - tr (6 * fv p) ≤ uu := by
    unfold fv6
    rw [hp]
    by_cases c : flt p cSixth = true
    · rw [if_pos c]
      have c' := (flt_iff pf fin_six).mp c
      rw [f6] at c'
      refine ⟨6 * fv p, ?_, by unfold tr; grind, by unfold tr; grind⟩
      have q1 := ap_mul (g := 2 * uu) 3 1 hd (ap_self pf) (by grind) (by grind) (by grind) (by grind) (by grind) (by grind)
      have m := rabs_mul (a := fv m2 - fv m1) (b := fv p) (A := 3) (B := 1 / 5) (by grind) (by grind) (by grind) (by grind)
      have q2 := ap_mul (g := 13 * uu) 1 6 q1 (ap_self fin_c6) (by grind) (by grind) (by rw [fv_c6]; grind) (by rw [fv_c6]; grind) (by grind) (by grind)
      rw [fv_c6] at q2
      have q3 := ap_add (g := 16 * uu) (ap_self h1) q2 (by grind) (by grind) (by grind) (by grind)
      have e : fv m1 + (fv m2 - fv m1) * (6 * fv p) = fv m1 + (fv m2 - fv m1) * fv p * 6 := by grind
      rw [e]; exact q3
    · rw [if_neg c]
      have c' := not_flt pf fin_six c
      rw [f6] at c'
      by_cases d : flt p cHalf = true
      · rw [if_pos d]
        have d' := (flt_iff pf fin_half).mp d
        rw [fh] at d'
        exact ⟨1, ⟨h2, by grind, by grind⟩, by unfold tr; grind, by unfold tr; grind⟩
      · rw [if_neg d]
        have d' := not_flt pf fin_half d
        rw [fh] at d'
        by_cases x : flt p cTwoThird = true
        · rw [if_pos x]
          have x' := (flt_iff pf fin_two).mp x
          rw [f3] at x'
          refine ⟨6 * (2 / 3 - fv p), ?_, by unfold tr; grind, by unfold tr; grind⟩
          have q0 := (sub_rnd fin_two pf (big_of (by rw [f3]; grind) (by rw [f3]; grind)))
          rw [f3] at q0
          have q0' := rnd_apk 0 1 (uu / 16) q0 (by decide +kernel) (by grind) (by grind) (by decide +kernel)
          have i1 := q0'.lo
          have i2 := q0'.hi
          have q00 : Ap (sub cTwoThird p) (2 / 3 - fv p) (uu / 3) := ⟨q0'.fin, by grind, by grind⟩
          have q1 := ap_mul (g := 2 * uu + uu / 4) 3 (1 / 5) hd q00 (by grind) (by grind) (by grind) (by grind) (by grind) (by grind)
          have m := rabs_mul (a := fv m2 - fv m1) (b := 2 / 3 - fv p) (A := 3) (B := 1 / 5) (by grind) (by grind) (by grind) (by grind)
          have q2 := ap_mul (g := 14 * uu + uu / 2) 1 6 q1 (ap_self fin_c6) (by grind) (by grind) (by rw [fv_c6]; grind) (by rw [fv_c6]; grind) (by grind) (by grind)
          rw [fv_c6] at q2
          have q3 := ap_add (g := 16 * uu) (ap_self h1) q2 (by grind) (by grind) (by grind) (by grind)
          have e : fv m1 + (fv m2 - fv m1) * (6 * (2 / 3 - fv p)) = fv m1 + (fv m2 - fv m1) * (2 / 3 - fv p) * 6 := by grind
          rw [e]; exact q3
        · rw [if_neg x]
          have x' := not_flt pf fin_two x
          rw [f3] at x'
          exact ⟨0, ⟨h1, by grind, by grind⟩, by unfold tr; grind, by unfold tr; grind⟩
  obtain ⟨t, ma, mb, mc⟩ := main
  exact lerp ma (by grind) (by grind) (7 * uu) (by grind) (by grind) (by grind)
end
end
section
section
open PySem PySem.Flt PySem.Float64
/-- the lesser of l and 1 - l -/
noncomputable def mn1 (l : Rat) : Rat := if l ≤ 1 / 2 then l else 1 - l
theorem mn1_b {l : Rat} (h0 : 0 ≤ l) (h1 : l ≤ 1) : 0 ≤ mn1 l ∧ mn1 l ≤ 1 / 2 := by unfold mn1; grind
theorem mn1_lip {a b e : Rat} (h1 : a - b ≤ e) (h2 : b - a ≤ e) : mn1 a - mn1 b ≤ e := by unfold mn1; grind
theorem m2_ap {l s : UInt64} (hl : Fin l) (hs : Fin s) (l0 : 0 ≤ fv l) (l1 : fv l ≤ 1) (s0 : 0 ≤ fv s) (s1 : fv s ≤ 101 / 100) : Ap (lM2 l s) (fv l + fv s * mn1 (fv l)) (4 * uu) := by
  have u0 := uu0
  have us : uu ≤ 1 / 1000000 := by decide +kernel
  have m := rabs_mul (a := fv l) (b := fv s) (A := 1) (B := 101 / 100) (by grind) (by grind) (by grind) (by grind)
  unfold lM2
  by_cases c : fle l cHalf = true
  · rw [if_pos c]
    have c' := (fle_iff hl fin_half).mp c
    rw [fv_half] at c'
    have q1 := ap_add (g := uu) (ap_self fin_c1) (ap_self hs) (by rw [fv_c1]; grind) (by rw [fv_c1]; grind) (by grind) (by grind)
    rw [fv_c1] at q1
    have q2 := ap_mul (g := 4 * uu) 1 3 (ap_self hl) q1 (by grind) (by grind) (by grind) (by grind) (by grind) (by grind)
    have e : fv l + fv s * mn1 (fv l) = fv l * (1 + fv s) := by unfold mn1; rw [if_pos c']; grind
    rw [e]; exact q2
  · rw [if_neg c]
    have c' := not_fle hl fin_half c
    rw [fv_half] at c'
    have q1 := ap_add (g := uu) (ap_self hl) (ap_self hs) (by grind) (by grind) (by grind) (by grind)
    have q2 := ap_mul (g := uu) 1 2 (ap_self hl) (ap_self hs) (by grind) (by grind) (by grind) (by grind) (by grind) (by grind)
    have q3 := ap_sub (g := 4 * uu) q1 q2 (by grind) (by grind) (by grind) (by grind)
    have e : fv l + fv s * mn1 (fv l) = fv l + fv s - fv l * fv s := by unfold mn1; rw [if_neg (by grind)]; grind
    rw [e]; exact q3
theorem m1_ap {l s : UInt64} (hl : Fin l) (hs : Fin s) (l0 : 0 ≤ fv l) (l1 : fv l ≤ 1) (s0 : 0 ≤ fv s) (s1 : fv s ≤ 101 / 100) : Ap (lM1 l s) (fv l - fv s * mn1 (fv l)) (6 * uu) := by
  have u0 := uu0
  have us : uu ≤ 1 / 1000000 := by decide +kernel
  have h2 := m2_ap hl hs l0 l1 s0 s1
  have hb := mn1_b l0 l1
  have m := rabs_mul (a := fv s) (b := mn1 (fv l)) (A := 101 / 100) (B := 1) (by grind) (by grind) (by grind) (by grind)
  have q1 := ap_mul (g := uu) 2 1 (ap_self fin_c2) (ap_self hl) (by rw [fv_c2]; grind) (by rw [fv_c2]; grind) (by grind) (by grind) (by grind) (by grind)
  rw [fv_c2] at q1
  have q2 := ap_sub (g := 6 * uu) q1 h2 (by grind) (by grind) (by grind) (by grind)
  have e : fv l - fv s * mn1 (fv l) = 2 * fv l - (fv l + fv s * mn1 (fv l)) := by grind
  unfold lM1
  rw [e]; exact q2
/-- one component of hls_to_rgb -/
theorem hls_one {l s hue : UInt64} {y : Rat} (hl : Fin l) (hs : Fin s) (hh : Fin hue) (l0 : 0 ≤ fv l) (l1 : fv l ≤ 1) (s0 : 0 ≤ fv s) (s1 : fv s ≤ 101 / 100) (y1 : -(20 * uu) ≤ 6 * fv hue - y) (y2 : 6 * fv hue - y ≤ 20 * uu) :
    Ap (fv6 (lM1 l s) (lM2 l s) hue) (fv l + fv s * mn1 (fv l) * (2 * tz y - 1)) (120 * uu) := by
  have u0 := uu0
  have us : uu ≤ 1 / 1000000 := by decide +kernel
  have h1 := m1_ap hl hs l0 l1 s0 s1
  have h2 := m2_ap hl hs l0 l1 s0 s1
  have hb := mn1_b l0 l1
  have m := rabs_mul (a := fv s) (b := mn1 (fv l)) (A := 101 / 100) (B := 1 / 2) (by grind) (by grind) (by grind) (by grind)
  have a1 := h1.lo; have a2 := h1.hi; have a3 := h2.lo; have a4 := h2.hi
  have q := fv6_ap h1.fin h2.fin hh (by grind) (by grind) (by grind) (by grind)
  have z1 := tz_lip (x := 6 * fv hue) (y := y) (e := 20 * uu) (by grind) (by grind)
  have z2 := tz_lip (y := 6 * fv hue) (x := y) (e := 20 * uu) (by grind) (by grind)
  have q' := lerp (g := 100 * uu) q (by grind) (by grind) (20 * uu) (t' := tz y) (by grind) (by grind) (by grind)
  have tb := tz_b y
  have b1 := q'.lo; have b2 := q'.hi
  generalize tz y = t at *
  generalize hX : fv s * mn1 (fv l) = X at *
  have n1 := rabs_mul (a := fv (lM1 l s) - (fv l - X)) (b := 1 - t) (A := 6 * uu) (B := 1) (by grind) (by grind) (by grind) (by grind)
  have n2 := rabs_mul (a := fv (lM2 l s) - (fv l + X)) (b := t) (A := 4 * uu) (B := 1) (by grind) (by grind) (by grind) (by grind)
  exact ⟨q'.fin, by grind, by grind⟩
theorem hls_ap {h l s : UInt64} (hh : Fin h) (hl : Fin l) (hs : Fin s) (h0 : -5 ≤ fv h) (h1 : fv h ≤ 5) (l0 : 0 ≤ fv l) (l1 : fv l ≤ 1) (s0 : 0 ≤ fv s) (s1 : fv s ≤ 101 / 100) :
    Ap (hlsR h l s) (fv l + fv s * mn1 (fv l) * (2 * tz (6 * fv h + 2) - 1)) (120 * uu) ∧ Ap (hlsG h l s) (fv l + fv s * mn1 (fv l) * (2 * tz (6 * fv h + 0) - 1)) (120 * uu) ∧ Ap (hlsB h l s) (fv l + fv s * mn1 (fv l) * (2 * tz (6 * fv h + -2) - 1)) (120 * uu) := by
  have u0 := uu0
  by_cases hz : feq s 0 = true
  · have es : fv s = 0 := by rw [← fv_z]; exact (feq_iff hs fin_z).mp hz
    have e1 : hlsR h l s = l := by unfold hlsR; rw [if_pos hz]
    have e2 : hlsG h l s = l := by unfold hlsG; rw [if_pos hz]
    have e3 : hlsB h l s = l := by unfold hlsB; rw [if_pos hz]
    rw [e1, e2, e3, es]
    refine ⟨⟨hl, ?_, ?_⟩, ⟨hl, ?_, ?_⟩, ⟨hl, ?_, ?_⟩⟩ <;> grind
  · have ft := fv_third
    have p := ap_add (g := uu) (ap_self hh) (ap_self fin_third) (by rw [ft]; grind) (by rw [ft]; grind) (by grind) (by grind)
    have q := ap_sub (g := uu) (ap_self hh) (ap_self fin_third) (by rw [ft]; grind) (by rw [ft]; grind) (by grind) (by grind)
    rw [ft] at p q
    have := p.lo; have := p.hi; have := q.lo; have := q.hi
    unfold hlsR hlsG hlsB
    rw [if_neg hz, if_neg hz, if_neg hz]
    exact ⟨hls_one hl hs p.fin l0 l1 s0 s1 (by grind) (by grind), hls_one hl hs hh l0 l1 s0 s1 (by grind) (by grind), hls_one hl hs q.fin l0 l1 s0 s1 (by grind) (by grind)⟩
end
end
section
section
open PySem PySem.Flt PySem.Float64
theorem uus : uu ≤ 1 / 1000000 := by decide +kernel
theorem castR_pos {t : Int} (h : 0 < t) : (0 : Rat) < (t : Rat) := by
  have := Rat.intCast_lt_intCast.mpr h
  exact this
theorem castR_le {a b : Int} (h : a ≤ b) : (a : Rat) ≤ (b : Rat) := Rat.intCast_le_intCast.mpr h
theorem castR_nn {t : Int} (h : 0 ≤ t) : (0 : Rat) ≤ (t : Rat) := by
  have := Rat.intCast_le_intCast.mpr h
  exact this
theorem div_le_of {a b t : Rat} (ht : 0 < t) (h : a ≤ b * t) : a / t ≤ b := by
  apply Rat.le_of_mul_le_mul_right _ ht
  have : a / t * t = a := by grind
  rw [this]; exact h
theorem le_div_of {a b t : Rat} (ht : 0 < t) (h : b * t ≤ a) : b ≤ a / t := by
  apply Rat.le_of_mul_le_mul_right _ ht
  have : a / t * t = a := by grind
  rw [this]; exact h
theorem div_le_div {a b t : Rat} (ht : 0 < t) (h : a ≤ b) : a / t ≤ b / t := by
  apply div_le_of ht
  have : b / t * t = b := by grind
  rw [this]; exact h
/-- the depth -/
structure Dep (top : Int) : Prop where
  p : 0 < top
  q : top ≤ 16384
theorem Dep.r {top : Int} (h : Dep top) : (1 : Rat) ≤ (top : Rat) ∧ (top : Rat) ≤ 16384 := by
  have h1 : (((1 : Int)) : Rat) ≤ (top : Rat) := Rat.intCast_le_intCast.mpr (by have := h.p; omega)
  have h2 : (top : Rat) ≤ ((16384 : Int) : Rat) := Rat.intCast_le_intCast.mpr h.q
  exact ⟨h1, h2⟩
theorem sh_rnd {a t : Int} (ht : t ≠ 0) (hb : Big ((a : Rat) / t)) : Rnd ((a : Rat) / t) (sh a t) := by
  rw [sh_def]; exact ofFrac_rnd ht hb
theorem sh_ap {a top : Int} (ht : Dep top) (h0 : 0 ≤ a) (h1 : a ≤ top) : Ap (sh a top) ((a : Rat) / top) (uu / 16) ∧ 0 ≤ fv (sh a top) ∧ fv (sh a top) ≤ 1 := by
  have tp := castR_pos ht.p
  have a0 := castR_nn h0
  have a1 := castR_le h1
  have b0 : 0 ≤ (a : Rat) / top := le_div_of tp (by grind)
  have b1 : (a : Rat) / top ≤ 1 := div_le_of tp (by grind)
  have hr := sh_rnd (a := a) (t := top) (by have := ht.p; omega) (big_of (by grind) (by grind))
  have h0 := rnd_ge hr fin_z (by rw [fv_z]; exact b0)
  have h1 := rnd_le hr fin_c1 (by rw [fv_c1]; exact b1)
  rw [fv_z] at h0
  rw [fv_c1] at h1
  exact ⟨rnd_apk 0 1 (uu / 16) hr (by decide +kernel) (by grind) (by grind) (by decide +kernel), h0, h1⟩
theorem sh_lt {a b top : Int} (ht : Dep top) (h0 : 0 ≤ a) (hb : b ≤ top) (h : a < b) : fv (sh a top) < fv (sh b top) := by
  obtain ⟨pa, _, _⟩ := sh_ap ht h0 (by omega)
  obtain ⟨pb, _, _⟩ := sh_ap ht (show 0 ≤ b by omega) hb
  have := pa.hi; have := pb.lo
  have tp := castR_pos ht.p
  have t2 := ht.r.2
  have hab : (a : Rat) + 1 ≤ (b : Rat) := by
    have := castR_le (show a + 1 ≤ b by omega)
    rw [Rat.intCast_add] at this; exact this
  have h1 : ((a : Rat) + 1) / top ≤ (b : Rat) / top := div_le_div tp hab
  have h2 : 1 / 16384 ≤ 1 / (top : Rat) := by
    apply le_div_of tp; grind
  have h3 : ((a : Rat) + 1) / top = (a : Rat) / top + 1 / top := by grind
  have us : uu ≤ 1 / 1000000 := uus
  grind
theorem sh_le_iff {a b top : Int} (ht : Dep top) (a0 : 0 ≤ a) (a1 : a ≤ top) (b0 : 0 ≤ b) (b1 : b ≤ top) : fv (sh a top) ≤ fv (sh b top) ↔ a ≤ b := by
  constructor
  · intro h
    rcases Int.lt_or_le b a with c | c
    · have := sh_lt ht b0 a1 c; exfalso; grind
    · exact c
  · intro h
    rcases Int.lt_or_le a b with c | c
    · exact Rat.le_of_lt (sh_lt ht a0 b1 c)
    · have : a = b := by omega
      rw [this]; exact Rat.le_refl
theorem sh_feq {a b top : Int} (ht : Dep top) (a0 : 0 ≤ a) (a1 : a ≤ top) (b0 : 0 ≤ b) (b1 : b ≤ top) : feq (sh a top) (sh b top) = true ↔ a = b := by
  rw [feq_iff (sh_ap ht a0 a1).1.fin (sh_ap ht b0 b1).1.fin]
  have i1 := sh_le_iff ht a0 a1 b0 b1
  have i2 := sh_le_iff ht b0 b1 a0 a1
  constructor
  · intro h
    have := i1.mp (by rw [h]; exact Rat.le_refl)
    have := i2.mp (by rw [h]; exact Rat.le_refl)
    omega
  · intro h; rw [h]
theorem sh_flt {a b top : Int} (ht : Dep top) (a0 : 0 ≤ a) (a1 : a ≤ top) (b0 : 0 ≤ b) (b1 : b ≤ top) : flt (sh a top) (sh b top) = true ↔ a < b := by
  rw [flt_iff (sh_ap ht a0 a1).1.fin (sh_ap ht b0 b1).1.fin]
  have i2 := sh_le_iff ht b0 b1 a0 a1
  rw [← Rat.not_le, i2]; omega
end
end
section
section
open PySem PySem.Flt PySem.Float64
/-- a colour of whole numbers with its greatest and least -/
structure Col (r g b top M m : Int) : Prop where
  d : Dep top
  r0 : 0 ≤ r
  r1 : r ≤ top
  g0 : 0 ≤ g
  g1 : g ≤ top
  b0 : 0 ≤ b
  b1 : b ≤ top
  hM : max (max r g) b = M
  hm : min (min r g) b = m
section
variable {r g b top M m : Int} (C : Col r g b top M m)
include C
theorem Col.bd : (m ≤ r ∧ r ≤ M) ∧ (m ≤ g ∧ g ≤ M) ∧ (m ≤ b ∧ b ≤ M) := by
  have h1 := C.hM; have h2 := C.hm
  subst h1 h2
  exact ⟨⟨Int.le_trans (Int.min_le_left _ _) (Int.min_le_left _ _), Int.le_trans (Int.le_max_left _ _) (Int.le_max_left _ _)⟩, ⟨Int.le_trans (Int.min_le_left _ _) (Int.min_le_right _ _), Int.le_trans (Int.le_max_right _ _) (Int.le_max_left _ _)⟩, Int.min_le_right _ _, Int.le_max_right _ _⟩
theorem Col.M0 : 0 ≤ M ∧ M ≤ top ∧ 0 ≤ m ∧ m ≤ top ∧ m ≤ M := by
  have h := C.bd
  refine ⟨Int.le_trans C.r0 h.1.2, ?_, ?_, Int.le_trans h.1.1 C.r1, Int.le_trans h.1.1 h.1.2⟩
  · rw [← C.hM]; exact Int.max_le.mpr ⟨Int.max_le.mpr ⟨C.r1, C.g1⟩, C.b1⟩
  · rw [← C.hm]; exact Int.le_min.mpr ⟨Int.le_min.mpr ⟨C.r0, C.g0⟩, C.b0⟩
theorem Col.att : (r = M ∨ g = M ∨ b = M) ∧ (r = m ∨ g = m ∨ b = m) := by
  have h1 := C.hM; have h2 := C.hm
  clear C
  constructor
  · rcases Int.le_total r g with x | x
    · rw [Int.max_eq_right x] at h1
      rcases Int.le_total g b with y | y
      · rw [Int.max_eq_right y] at h1; exact Or.inr (Or.inr h1)
      · rw [Int.max_eq_left y] at h1; exact Or.inr (Or.inl h1)
    · rw [Int.max_eq_left x] at h1
      rcases Int.le_total r b with y | y
      · rw [Int.max_eq_right y] at h1; exact Or.inr (Or.inr h1)
      · rw [Int.max_eq_left y] at h1; exact Or.inl h1
  · rcases Int.le_total r g with x | x
    · rw [Int.min_eq_left x] at h2
      rcases Int.le_total r b with y | y
      · rw [Int.min_eq_left y] at h2; exact Or.inl h2
      · rw [Int.min_eq_right y] at h2; exact Or.inr (Or.inr h2)
    · rw [Int.min_eq_right x] at h2
      rcases Int.le_total g b with y | y
      · rw [Int.min_eq_left y] at h2; exact Or.inr (Or.inl h2)
      · rw [Int.min_eq_right y] at h2; exact Or.inr (Or.inr h2)
theorem Col.sM : Ap (sh M top) ((M : Rat) / top) (uu / 16) ∧ 0 ≤ fv (sh M top) ∧ fv (sh M top) ≤ 1 := sh_ap C.d C.M0.1 C.M0.2.1
theorem Col.sm : Ap (sh m top) ((m : Rat) / top) (uu / 16) ∧ 0 ≤ fv (sh m top) ∧ fv (sh m top) ≤ 1 := sh_ap C.d C.M0.2.2.1 C.M0.2.2.2.1
theorem fmax2_sh {a c : Int} (d : Dep top) (a0 : 0 ≤ a) (a1 : a ≤ top) (c0 : 0 ≤ c) (c1 : c ≤ top) : fmax2 (sh a top) (sh c top) = sh (max a c) top := by
  have i := sh_flt d a0 a1 c0 c1
  unfold flt at i
  unfold fmax2
  by_cases h : a < c
  · rw [if_pos (i.mpr h)]; congr 1; omega
  · rw [if_neg (fun e => h (i.mp e))]; congr 1; omega
theorem fmin2_sh {a c : Int} (d : Dep top) (a0 : 0 ≤ a) (a1 : a ≤ top) (c0 : 0 ≤ c) (c1 : c ≤ top) : fmin2 (sh a top) (sh c top) = sh (min a c) top := by
  have i := sh_flt d c0 c1 a0 a1
  unfold flt at i
  unfold fmin2
  by_cases h : c < a
  · rw [if_pos (i.mpr h)]; congr 1; omega
  · rw [if_neg (fun e => h (i.mp e))]; congr 1; omega
theorem Col.max : fmax3 (sh r top) (sh g top) (sh b top) = sh M top := by
  have := C.r0; have := C.r1; have := C.g0; have := C.g1; have := C.b0; have := C.b1; have := C.hM
  unfold fmax3
  rw [fmax2_sh C C.d C.r0 C.r1 C.g0 C.g1, fmax2_sh C C.d (by omega) (by omega) C.b0 C.b1, C.hM]
theorem Col.min : fmin3 (sh r top) (sh g top) (sh b top) = sh m top := by
  have := C.r0; have := C.r1; have := C.g0; have := C.g1; have := C.b0; have := C.b1; have := C.hm
  unfold fmin3
  rw [fmin2_sh C C.d C.r0 C.r1 C.g0 C.g1, fmin2_sh C C.d (by omega) (by omega) C.b0 C.b1, C.hm]
theorem Col.grey : grey (sh r top) (sh g top) (sh b top) = true ↔ M - m = 0 := by
  have := C.M0
  unfold Mine.grey
  rw [C.max, C.min, sh_feq C.d (by omega) (by omega) (by omega) (by omega)]
  omega
theorem Col.kap (h : M - m ≠ 0) : (1 : Rat) ≤ ((M - m : Int) : Rat) ∧ ((M - m : Int) : Rat) ≤ (top : Rat) := by
  have := C.M0
  have h1 := castR_le (show 1 ≤ M - m by omega)
  have h2 := castR_le (show M - m ≤ top by omega)
  exact ⟨h1, h2⟩
theorem Col.rg_ap : Ap (rg (sh r top) (sh g top) (sh b top)) (((M - m : Int) : Rat) / top) (2 * uu) := by
  have tp := castR_pos C.d.p
  have us := uus
  have u0 := uu0
  obtain ⟨a, a0, a1⟩ := C.sM
  obtain ⟨c, c0, c1⟩ := C.sm
  have := C.M0
  have k0 : 0 ≤ (M : Rat) / top := le_div_of tp (by have := castR_nn C.M0.1; grind)
  have k1 : (M : Rat) / top ≤ 1 := div_le_of tp (by have := castR_le C.M0.2.1; grind)
  have k2 : 0 ≤ (m : Rat) / top := le_div_of tp (by have := castR_nn C.M0.2.2.1; grind)
  have k3 : (m : Rat) / top ≤ 1 := div_le_of tp (by have := castR_le C.M0.2.2.2.1; grind)
  have q := ap_sub (g := 2 * uu) a c (by grind) (by grind) (by grind) (by grind)
  unfold rg
  rw [C.max, C.min, Rat.intCast_sub]
  have e : ((M : Rat) - m) / top = (M : Rat) / top - m / top := by grind
  rw [e]; exact q
end
end
end
section
section
open PySem PySem.Flt PySem.Float64
theorem quo {u t s : Rat} (hs : 0 < s) : u * t / s * s = u * t := by grind
theorem quo_ge {u t s : Rat} (hu : 0 ≤ u) (hs : 0 < s) (h : s ≤ t) : u ≤ u * t / s := by
  apply le_div_of hs
  have := Rat.mul_le_mul_of_nonneg_left h hu
  exact this
theorem quo_le {u t s : Rat} (hu : 0 ≤ u) (hs : 1 ≤ s) (h0 : 0 ≤ t) (h : t ≤ 16384) : u * t / s ≤ 16384 * u := by
  apply div_le_of (by grind)
  have h1 := Rat.mul_le_mul_of_nonneg_left h hu
  have h2 := Rat.mul_le_mul_of_nonneg_left hs (show 0 ≤ 16384 * u by grind)
  grind
theorem halfm {k y u : Rat} (c : Rat) (h : k * y = u) : c * k * (y / 2) = c / 2 * u := by grind
theorem canc {u t s : Rat} (ht : 0 < t) (hs : 0 < s) : u * t / s * (s / t) = u := by grind
/-- the place of the hue, in sixths of the spread -/
noncomputable def hn (r g b M sp : Int) : Int := if r = M then (if g < b then g - b + 6 * sp else g - b) else if g = M then 2 * sp + (b - r) else 4 * sp + (r - g)
section
variable {r g b top M m : Int} (C : Col r g b top M m)
include C
theorem Col.cc_ap (h : M - m ≠ 0) {x : Int} (x0 : m ≤ x) (x1 : x ≤ M) : Ap (cc (sh r top) (sh g top) (sh b top) (sh x top)) (((M - x : Int) : Rat) / ((M - m : Int) : Rat)) (9 * (uu * top / ((M - m : Int) : Rat))) := by
  have tp := castR_pos C.d.p
  have t2 := C.d.r.2
  have us := uus
  have u0 := uu0
  have hM := C.M0
  obtain ⟨k1, k2⟩ := C.kap h
  obtain ⟨a, a0, a1⟩ := C.sM
  obtain ⟨c, c0, c1⟩ := sh_ap C.d (show 0 ≤ x by omega) (show x ≤ top by omega)
  have hr := C.rg_ap
  have x2 := castR_nn (show 0 ≤ M - x by omega)
  have x3 := castR_le (show M - x ≤ M - m by omega)
  have e1 : (M : Rat) / top - x / top = ((M - x : Int) : Rat) / top := by rw [Rat.intCast_sub]; grind
  generalize hsp : ((M - m : Int) : Rat) = sp at *
  generalize hz : ((M - x : Int) : Rat) = z at *
  have y0 : 0 ≤ z / top := le_div_of tp (by grind)
  have y1 : z / top ≤ 1 := div_le_of tp (by grind)
  have q := ap_sub (g := 2 * uu) a c (by grind) (by grind) (by grind) (by grind)
  rw [e1] at q
  have hspp : 0 < sp := by grind
  have e2 : z / top = z / sp * (sp / top) := by grind
  rw [e2] at q
  have z0 : 0 ≤ z / sp := le_div_of hspp (by grind)
  have z1 : z / sp ≤ 1 := div_le_of hspp (by grind)
  have l1 : 1 / 16384 ≤ sp / top := by
    have h1 : 1 / (top : Rat) ≤ sp / top := div_le_div tp k1
    have h2 : 1 / 16384 ≤ 1 / (top : Rat) := le_div_of tp (by grind)
    grind
  have g1 := quo_ge u0 hspp k2
  have g2 := quo_le u0 k1 (Rat.le_of_lt tp) t2
  have e3 := halfm 8 (canc (u := uu) tp hspp)
  have q2 := ap_div (g := 9 * (uu * top / sp)) 1 (sp / top) (8 * (uu * top / sp)) q hr (by grind) (by grind) (by grind) (by grind) (by grind) (by rw [e3]; grind) (by grind) (by grind) (by grind)
  unfold cc
  rw [C.max]
  exact q2
theorem Col.hue6_ap (h : M - m ≠ 0) : ∃ y : Int, y = (if r = M then g - b else if g = M then 2 * (M - m) + (b - r) else 4 * (M - m) + (r - g)) ∧ Ap (hue6 (sh r top) (sh g top) (sh b top)) ((y : Rat) / ((M - m : Int) : Rat)) (20 * (uu * top / ((M - m : Int) : Rat))) ∧ (y = 0 → fv (hue6 (sh r top) (sh g top) (sh b top)) = 0) := by
  refine ⟨_, rfl, ?_⟩
  have tp := castR_pos C.d.p
  have t2 := C.d.r.2
  have us := uus
  have u0 := uu0
  have hM := C.M0
  obtain ⟨⟨i1, i2⟩, ⟨i3, i4⟩, i5, i6⟩ := C.bd
  obtain ⟨k1, k2⟩ := C.kap h
  have cr := C.cc_ap h (x := r) (by omega) (by omega)
  have cg := C.cc_ap h (x := g) (by omega) (by omega)
  have cb := C.cc_ap h (x := b) (by omega) (by omega)
  have g1 := quo_ge u0 (show 0 < ((M - m : Int) : Rat) by grind) k2
  have g2 := quo_le u0 k1 (Rat.le_of_lt tp) t2
  have hspp : 0 < ((M - m : Int) : Rat) := by grind
  have bnd : ∀ x : Int, m ≤ x → x ≤ M → 0 ≤ ((M - x : Int) : Rat) / ((M - m : Int) : Rat) ∧ ((M - x : Int) : Rat) / ((M - m : Int) : Rat) ≤ 1 := fun x x0 x1 => by
    have x2 := castR_nn (show 0 ≤ M - x by omega)
    have x3 := castR_le (show M - x ≤ M - m by omega)
    exact ⟨le_div_of hspp (by grind), div_le_of hspp (by grind)⟩
  have br := bnd r (by omega) (by omega)
  have bg := bnd g (by omega) (by omega)
  have bb := bnd b (by omega) (by omega)
  have er := sh_feq C.d C.r0 C.r1 hM.1 hM.2.1
  have eg := sh_feq C.d C.g0 C.g1 hM.1 hM.2.1
  unfold hue6
  rw [C.max]
  by_cases c : r = M
  · rw [if_pos (er.mpr c), if_pos c]
    refine ⟨?_, fun hy => ?_⟩
    · have q := ap_sub (g := 20 * (uu * top / ((M - m : Int) : Rat))) cb cg (by grind) (by grind) (by grind) (by grind)
      have e : ((g - b : Int) : Rat) / ((M - m : Int) : Rat) = ((M - b : Int) : Rat) / ((M - m : Int) : Rat) - ((M - g : Int) : Rat) / ((M - m : Int) : Rat) := by
        generalize ((M - m : Int) : Rat) = sp at *
        rw [Rat.intCast_sub, Rat.intCast_sub, Rat.intCast_sub]; grind
      rw [e]; exact q
    · have e : g = b := by omega
      subst e
      have hz : fv (cc (sh r top) (sh g top) (sh g top) (sh g top)) - fv (cc (sh r top) (sh g top) (sh g top) (sh g top)) = 0 := by grind
      have q := sub_rnd cg.fin cg.fin (big_of (by rw [hz]; decide +kernel) (by rw [hz]; decide +kernel))
      rw [hz] at q
      have l1 := rnd_le q fin_z (by rw [fv_z]; exact Rat.le_refl)
      have l2 := rnd_ge q fin_z (by rw [fv_z]; exact Rat.le_refl)
      rw [fv_z] at l1 l2
      exact Rat.le_antisymm l1 l2
  · rw [if_neg (fun e => c (er.mp e)), if_neg c]
    by_cases d : g = M
    · rw [if_pos (eg.mpr d), if_pos d]
      refine ⟨?_, fun hy => by exfalso; omega⟩
      have q0 := ap_add (g := 10 * (uu * top / ((M - m : Int) : Rat))) (ap_self fin_c2) cr (by rw [fv_c2]; grind) (by rw [fv_c2]; grind) (by grind) (by grind)
      rw [fv_c2] at q0
      have q := ap_sub (g := 20 * (uu * top / ((M - m : Int) : Rat))) q0 cb (by grind) (by grind) (by grind) (by grind)
      have e : ((2 * (M - m) + (b - r) : Int) : Rat) / ((M - m : Int) : Rat) = 2 + ((M - r : Int) : Rat) / ((M - m : Int) : Rat) - ((M - b : Int) : Rat) / ((M - m : Int) : Rat) := by
        rw [Rat.intCast_add, Rat.intCast_mul]
        have e2 : ((2 : Int) : Rat) = 2 := rfl
        rw [e2]
        generalize ((M - m : Int) : Rat) = sp at *
        rw [Rat.intCast_sub, Rat.intCast_sub, Rat.intCast_sub]; grind
      rw [e]; exact q
    · rw [if_neg (fun e => d (eg.mp e)), if_neg d]
      refine ⟨?_, fun hy => by exfalso; omega⟩
      have q0 := ap_add (g := 10 * (uu * top / ((M - m : Int) : Rat))) (ap_self fin_c4) cg (by rw [fv_c4]; grind) (by rw [fv_c4]; grind) (by grind) (by grind)
      rw [fv_c4] at q0
      have q := ap_sub (g := 20 * (uu * top / ((M - m : Int) : Rat))) q0 cr (by grind) (by grind) (by grind) (by grind)
      have e : ((4 * (M - m) + (r - g) : Int) : Rat) / ((M - m : Int) : Rat) = 4 + ((M - g : Int) : Rat) / ((M - m : Int) : Rat) - ((M - r : Int) : Rat) / ((M - m : Int) : Rat) := by
        rw [Rat.intCast_add, Rat.intCast_mul]
        have e2 : ((4 : Int) : Rat) = 4 := rfl
        rw [e2]
        generalize ((M - m : Int) : Rat) = sp at *
        rw [Rat.intCast_sub, Rat.intCast_sub, Rat.intCast_sub]; grind
      rw [e]; exact q
end
end
end
section
section
/-- quotients -/
theorem dv_cc {c : Rat} (hc : c ≠ 0) (a b : Rat) : c * a / (c * b) = a / b := by
  rw [Rat.div_def, Rat.div_def, Rat.inv_mul_rev, Rat.mul_comm c a, Rat.mul_assoc, Rat.mul_comm b⁻¹, ← Rat.mul_assoc c, Rat.mul_inv_cancel c hc, Rat.one_mul]
theorem dv_d (a b c : Rat) : a / (c * b) = a / c / b := by
  rw [Rat.div_def, Rat.div_def, Rat.div_def, Rat.inv_mul_rev, Rat.mul_comm b⁻¹, Rat.mul_assoc]
theorem dv_m (a b c : Rat) : a * b / c = a * (b / c) := by
  rw [Rat.div_def, Rat.div_def, Rat.mul_assoc]
theorem dv_s (a b c : Rat) : a / b / c = a / c / b := by
  rw [Rat.div_def, Rat.div_def, Rat.div_def, Rat.div_def, Rat.mul_assoc, Rat.mul_comm b⁻¹, Rat.mul_assoc]
theorem dv_24 (s n : Rat) : 2 * s / (4 * n) = s / n / 2 := by
  rw [show (4 : Rat) = 2 * 2 by decide +kernel, Rat.mul_assoc, dv_cc (by decide), dv_d, dv_s]
theorem dv_44 (u t n : Rat) : u * (4 * t) / (4 * n) = u * t / n := by
  rw [← Rat.mul_assoc, Rat.mul_comm u, Rat.mul_assoc, dv_cc (by decide)]
theorem dv_42 (u t n : Rat) : u * (4 * t) / (2 * n) = 2 * (u * t / n) := by
  rw [show (4 : Rat) = 2 * 2 by decide +kernel, Rat.mul_assoc, ← Rat.mul_assoc u, Rat.mul_comm u, Rat.mul_assoc, dv_cc (by decide), ← Rat.mul_assoc, Rat.mul_comm u, Rat.mul_assoc, dv_m]
theorem dv_c2 (a b : Rat) : 4 * a / (2 * (4 * b)) = a / (2 * b) := by
  rw [← Rat.mul_assoc, Rat.mul_comm 2, Rat.mul_assoc, dv_cc (by decide)]
theorem dv_8 (s t : Rat) : 2 * s / (2 * (4 * t)) = s / t * (1 / 4) := by
  rw [dv_cc (by decide), dv_d, dv_s, Rat.div_def, show (4 : Rat)⁻¹ = 1 / 4 by decide +kernel]
theorem dv_2 (s t : Rat) : s / (2 * t) = s / t * (1 / 2) := by
  rw [dv_d, dv_s, Rat.div_def, show (2 : Rat)⁻¹ = 1 / 2 by decide +kernel]
theorem dv_1 (s : Rat) : s / 1 = s := by
  rw [Rat.div_def, show (1 : Rat)⁻¹ = 1 by decide +kernel, Rat.mul_one]
theorem dv_22 (s : Rat) : s / 2 * 2 = s := Rat.div_mul_cancel (by decide)
theorem dv_c2' (s : Rat) : s * 2 / 2 = s := Rat.mul_div_cancel (by decide)
theorem q_add {s : Rat} (hs : s ≠ 0) (k x : Rat) : (k * s + x) / s = k + x / s := by
  rw [Rat.div_def, Rat.div_def, Rat.add_mul, Rat.mul_assoc, Rat.mul_inv_cancel s hs, Rat.mul_one]
theorem q_neg (x s : Rat) : -x / s = -(x / s) := by rw [Rat.div_def, Rat.div_def, Rat.neg_mul]
theorem z_at0 (m s : Rat) : m = m + s * 0 := by rw [Rat.mul_zero, Rat.add_zero]
theorem z_at1 (M m : Rat) : M = m + (M - m) * 1 := by rw [Rat.mul_one, Rat.sub_eq_add_neg, Rat.add_comm M, ← Rat.add_assoc, Rat.add_neg_cancel, Rat.zero_add]
theorem c_sub {a b m : Int} (h : b = m) : (a : Rat) = (m : Rat) + ((a - b : Int) : Rat) := by
  rw [← Rat.intCast_add, h, Int.add_comm, Int.sub_add_cancel]
/-- greatest and least -/
theorem max2 (q r g : Int) : max (q + 2 * r) (q + 2 * g) = q + 2 * max r g := by
  rw [Int.max_add_left]
  rcases Int.le_total r g with h | h
  · rw [Int.max_eq_right h, Int.max_eq_right (Int.mul_le_mul_of_nonneg_left h (by decide))]
  · rw [Int.max_eq_left h, Int.max_eq_left (Int.mul_le_mul_of_nonneg_left h (by decide))]
theorem min2 (q r g : Int) : min (q + 2 * r) (q + 2 * g) = q + 2 * min r g := by
  rw [Int.min_add_left]
  rcases Int.le_total r g with h | h
  · rw [Int.min_eq_left h, Int.min_eq_left (Int.mul_le_mul_of_nonneg_left h (by decide))]
  · rw [Int.min_eq_right h, Int.min_eq_right (Int.mul_le_mul_of_nonneg_left h (by decide))]
theorem min4 (a b : Int) : min (4 * a) (4 * b) = 4 * min a b := by
  rcases Int.le_total a b with h | h
  · rw [Int.min_eq_left h, Int.min_eq_left (Int.mul_le_mul_of_nonneg_left h (by decide))]
  · rw [Int.min_eq_right h, Int.min_eq_right (Int.mul_le_mul_of_nonneg_left h (by decide))]
theorem bnd3 {x y z M m W : Int} (hM : max (max x y) z = M) (hm : min (min x y) z = m) (m0 : 0 ≤ m) (M1 : M ≤ W) : (0 ≤ x ∧ x ≤ W) ∧ (0 ≤ y ∧ y ≤ W) ∧ (0 ≤ z ∧ z ≤ W) := by
  subst hM hm
  exact ⟨⟨Int.le_trans m0 (Int.le_trans (Int.min_le_left ..) (Int.min_le_left ..)), Int.le_trans (Int.le_trans (Int.le_max_left ..) (Int.le_max_left ..)) M1⟩,
    ⟨Int.le_trans m0 (Int.le_trans (Int.min_le_left ..) (Int.min_le_right ..)), Int.le_trans (Int.le_trans (Int.le_max_right ..) (Int.le_max_left ..)) M1⟩, Int.le_trans m0 (Int.min_le_right ..), Int.le_trans (Int.le_max_right ..) M1⟩
theorem max_of {r g b M : Int} (hM : max (max r g) b = M) (x : Int) (a : x = r ∨ x = g ∨ x = b) (c : r ≤ x ∧ g ≤ x ∧ b ≤ x) : x = M := by
  subst hM
  refine Int.le_antisymm ?_ (Int.max_le.mpr ⟨Int.max_le.mpr ⟨c.1, c.2.1⟩, c.2.2⟩)
  rcases a with rfl | rfl | rfl
  · exact Int.le_trans (Int.le_max_left ..) (Int.le_max_left ..)
  · exact Int.le_trans (Int.le_max_right ..) (Int.le_max_left ..)
  · exact Int.le_max_right ..
theorem min_of {r g b m : Int} (hm : min (min r g) b = m) (x : Int) (a : x = r ∨ x = g ∨ x = b) (c : x ≤ r ∧ x ≤ g ∧ x ≤ b) : x = m := by
  subst hm
  refine Int.le_antisymm (Int.le_min.mpr ⟨Int.le_min.mpr ⟨c.1, c.2.1⟩, c.2.2⟩) ?_
  rcases a with rfl | rfl | rfl
  · exact Int.le_trans (Int.min_le_left ..) (Int.min_le_left ..)
  · exact Int.le_trans (Int.min_le_left ..) (Int.min_le_right ..)
  · exact Int.min_le_right ..
/-- both = greatest + least -/
theorem both_of {r g b M m : Int} (hM : max (max r g) b = M) (hm : min (min r g) b = m) (X Y : Int) (h1 : X = r ∨ X = g ∨ X = b) (h2 : r ≤ X ∧ g ≤ X ∧ b ≤ X) (h3 : Y = r ∨ Y = g ∨ Y = b) (h4 : Y ≤ r ∧ Y ≤ g ∧ Y ≤ b) : X + Y = M + m := by
  rw [max_of hM X h1 h2, min_of hm Y h3 h4]
/-- one turn -/
theorem mm_turn {B x y z M m : Int} (hM : max (max x y) z = M) (hm : min (min x y) z = m) : max (max (B - y) (B - z)) (B - x) = B - m ∧ min (min (B - y) (B - z)) (B - x) = B - M := by
  rw [Int.sub_max_sub_left, Int.sub_max_sub_left, Int.sub_min_sub_left, Int.sub_min_sub_left, Int.min_comm (min y z) x, ← Int.min_assoc, hm, Int.max_comm (max y z) x, ← Int.max_assoc, hM]
  exact ⟨rfl, rfl⟩
theorem mm_swap {r g b M m : Int} (hM : max (max r g) b = M) (hm : min (min r g) b = m) : max (max r b) g = M ∧ min (min r b) g = m := by
  rw [Int.max_assoc, Int.max_comm b g, ← Int.max_assoc, Int.min_assoc, Int.min_comm b g, ← Int.min_assoc]
  exact ⟨hM, hm⟩
theorem mm_addr (q : Int) {r g b M m : Int} (hM : max (max r g) b = M) (hm : min (min r g) b = m) : max (max (r + q) (g + q)) (b + q) = M + q ∧ min (min (r + q) (g + q)) (b + q) = m + q := by
  rw [Int.max_add_right, Int.max_add_right, Int.min_add_right, Int.min_add_right, hM, hm]
  exact ⟨rfl, rfl⟩
/-- shifted, and twice -/
theorem mm_add (q : Int) {r g b M m : Int} (hM : max (max r g) b = M) (hm : min (min r g) b = m) : max (max (q + r) (q + g)) (q + b) = q + M ∧ min (min (q + r) (q + g)) (q + b) = q + m := by
  rw [Int.max_add_left, Int.max_add_left, Int.min_add_left, Int.min_add_left, hM, hm]
  exact ⟨rfl, rfl⟩
theorem mm_two (q : Int) {r g b M m : Int} (hM : max (max r g) b = M) (hm : min (min r g) b = m) : max (max (q + 2 * r) (q + 2 * g)) (q + 2 * b) = q + 2 * M ∧ min (min (q + 2 * r) (q + 2 * g)) (q + 2 * b) = q + 2 * m := by
  rw [max2, max2, min2, min2, hM, hm]
  exact ⟨rfl, rfl⟩
end
end
section
section
open PySem PySem.Flt PySem.Float64
/-- a rounded float is the float -/
theorem rnd_exact {X : Rat} {r z : UInt64} (h : Rnd X r) (hz : Fin z) (e : X = fv z) : fv r = fv z :=
  Rat.le_antisymm (rnd_le h hz (by rw [e]; exact Rat.le_refl)) (rnd_ge h hz (by rw [e]; exact Rat.le_refl))
theorem hue_y {r g b M m y : Int} (i1 : m ≤ r) (i2 : r ≤ M) (i3 : m ≤ g) (i4 : g ≤ M) (i5 : m ≤ b) (i6 : b ≤ M) (hy : y = if r = M then g - b else if g = M then 2 * (M - m) + (b - r) else 4 * (M - m) + (r - g)) :
    (-(M - m) ≤ y ∧ y ≤ 5 * (M - m)) ∧ (0 ≤ y → hn r g b M (M - m) = y) ∧ (y < 0 → hn r g b M (M - m) = y + 6 * (M - m)) := by
  unfold hn
  by_cases c : r = M
  · rw [if_pos c] at hy; rw [if_pos c]; subst hy
    refine ⟨by omega, fun h => ?_, fun h => ?_⟩
    · rw [if_neg (by omega)]
    · rw [if_pos (by omega)]
  · rw [if_neg c] at hy; rw [if_neg c]
    by_cases d : g = M
    · rw [if_pos d] at hy; rw [if_pos d]; subst hy; exact ⟨by omega, fun _ => rfl, fun h => by omega⟩
    · rw [if_neg d] at hy; rw [if_neg d]; subst hy; exact ⟨by omega, fun _ => rfl, fun h => by omega⟩
section
variable {r g b top M m : Int} (C : Col r g b top M m)
include C
theorem Col.hue_ap : Ap (hueOf (sh r top) (sh g top) (sh b top)) ((hn r g b M (M - m) : Rat) / ((M - m : Int) : Rat) / 6) (9 * (uu * top / ((M - m : Int) : Rat))) ∧ 0 ≤ fv (hueOf (sh r top) (sh g top) (sh b top)) ∧ fv (hueOf (sh r top) (sh g top) (sh b top)) ≤ 1 := by
  have hg := C.grey
  have hM := C.M0
  by_cases h : M - m = 0
  · have e : hueOf (sh r top) (sh g top) (sh b top) = 0 := by unfold hueOf; rw [if_pos (hg.mpr h)]
    rw [e, h]
    have e0 : ((0 : Int) : Rat) = 0 := rfl
    rw [e0, fv_z]
    exact ⟨⟨fin_z, by rw [fv_z]; grind, by rw [fv_z]; grind⟩, by decide, by decide⟩
  · obtain ⟨y, hy, ya, yz⟩ := C.hue6_ap h
    have ng : ¬ Mine.grey (sh r top) (sh g top) (sh b top) = true := fun e => h (hg.mp e)
    have tp := castR_pos C.d.p
    have t2 := C.d.r.2
    have us := uus
    have u0 := uu0
    obtain ⟨k1, k2⟩ := C.kap h
    have hspp : 0 < ((M - m : Int) : Rat) := by grind
    have g1 := quo_ge u0 hspp k2
    have g2 := quo_le u0 k1 (Rat.le_of_lt tp) t2
    obtain ⟨⟨y0, y1⟩, hnp, hnn⟩ := hue_y C.bd.1.1 C.bd.1.2 C.bd.2.1.1 C.bd.2.1.2 C.bd.2.2.1 C.bd.2.2.2 hy
    clear hy
    have y0' : -1 ≤ (y : Rat) / ((M - m : Int) : Rat) := by
      apply le_div_of hspp
      have := castR_le y0
      rw [Rat.intCast_neg] at this; grind
    have y1' : (y : Rat) / ((M - m : Int) : Rat) ≤ 5 := by
      apply div_le_of hspp
      have := castR_le y1
      rw [Rat.intCast_mul] at this
      have e5 : ((5 : Int) : Rat) = 5 := rfl
      rw [e5] at this; exact this
    have hval : hueOf (sh r top) (sh g top) (sh b top) = (divmod (div (hue6 (sh r top) (sh g top) (sh b top)) c6) c1).2 := by unfold hueOf; rw [if_neg ng]
    rw [hval]
    -- the quotient by six
    have ya' : Ap (hue6 (sh r top) (sh g top) (sh b top)) ((y : Rat) / ((M - m : Int) : Rat) / 6 * fv c6) (20 * (uu * top / ((M - m : Int) : Rat))) := by
      rw [fv_c6]
      have : (y : Rat) / ((M - m : Int) : Rat) / 6 * 6 = (y : Rat) / ((M - m : Int) : Rat) := Rat.div_mul_cancel (by decide)
      rw [this]; exact ya
    have q := ap_div (g := 8 * (uu * top / ((M - m : Int) : Rat))) 1 6 (7 * (uu * top / ((M - m : Int) : Rat))) ya' (ap_self fin_c6) (by grind) (by grind) (by rw [fv_c6]; grind) (by decide) (by decide +kernel) (by grind) (by grind) (by grind) (by grind)
    obtain ⟨k, ka, kb, kc, kd, ke, kf⟩ := mod1 q.fin
    have q1 := q.lo; have q2 := q.hi
    refine ⟨?_, kb, kc⟩
    have eqz : y = 0 → fv (div (hue6 (sh r top) (sh g top) (sh b top)) c6) = 0 := fun e => by
      have h0 := yz e
      have hz : fv (hue6 (sh r top) (sh g top) (sh b top)) / fv c6 = 0 := by rw [h0, fv_c6]; decide +kernel
      have hr := div_rnd ya.fin fin_c6 (by rw [fv_c6]; decide) (big_of (by rw [hz]; decide +kernel) (by rw [hz]; decide +kernel))
      rw [hz] at hr
      have := rnd_exact hr fin_z fv_z.symm
      rw [this, fv_z]
    have ksm : 8 * (uu * top / ((M - m : Int) : Rat)) * (6 * ((M - m : Int) : Rat)) < 1 := by
      have e := quo (u := uu) (t := top) hspp
      generalize uu * top / ((M - m : Int) : Rat) = κ at *
      have : uu * top ≤ uu * 16384 := Rat.mul_le_mul_of_nonneg_left t2 u0
      grind
    generalize hX : div (hue6 (sh r top) (sh g top) (sh b top)) c6 = X at *
    generalize hK : uu * top / ((M - m : Int) : Rat) = κ at *
    have h2 : 8 * κ * 6 < 1 / ((M - m : Int) : Rat) := by
      rw [← Rat.not_le]
      intro hh
      have := Rat.mul_le_mul_of_nonneg_right hh (Rat.le_of_lt hspp)
      rw [Rat.div_mul_cancel (Rat.ne_of_gt hspp), Rat.mul_assoc] at this
      exact absurd ksm (Rat.not_lt.mpr this)
    have step : 1 ≤ y → 8 * κ < (y : Rat) / ((M - m : Int) : Rat) / 6 := fun e => by
      have e1 := castR_le e
      have h1 : 1 / ((M - m : Int) : Rat) ≤ (y : Rat) / ((M - m : Int) : Rat) := div_le_div hspp e1
      grind
    have stepn : y ≤ -1 → (y : Rat) / ((M - m : Int) : Rat) / 6 < -(8 * κ) := fun e => by
      have e1 := castR_le e
      have h1 : (y : Rat) / ((M - m : Int) : Rat) ≤ ((-1 : Int) : Rat) / ((M - m : Int) : Rat) := div_le_div hspp e1
      have e4 : ((-1 : Int) : Rat) / ((M - m : Int) : Rat) = -(1 / ((M - m : Int) : Rat)) := by
        have : ((-1 : Int) : Rat) = -1 := rfl
        rw [this, q_neg]
      grind
    have ky := ka.lo; have ky' := ka.hi
    have ik1 : fv X < 1 → 0 ≤ fv X → k = 0 := fun a1 a2 => by
      have h1 : k ≤ 0 := int_lt_of (by have e : ((0 : Int) : Rat) = 0 := rfl; rw [e]; grind)
      have h2 : 0 ≤ k := int_lt_of (by have e : ((0 : Int) : Rat) = 0 := rfl; rw [e]; grind)
      omega
    have ik2 : fv X < 0 → -1 ≤ fv X → k = -1 := fun a1 a2 => by
      have h1 : k ≤ -1 := int_lt_of (by have e : ((-1 : Int) : Rat) = -1 := rfl; rw [e]; grind)
      have h2 : -1 ≤ k := int_lt_of (by have e : ((-1 : Int) : Rat) = -1 := rfl; rw [e]; grind)
      omega
    rcases Int.lt_trichotomy y 0 with e | e | e
    · have e1 := stepn (by omega)
      have e2 := ik2 (by grind) (by grind)
      rw [hnn e, Rat.intCast_add, Rat.intCast_mul]
      have e6 : ((6 : Int) : Rat) = 6 := rfl
      have em : ((-1 : Int) : Rat) = -1 := rfl
      rw [e6]
      rw [e2, em] at ky ky'
      have e7 : ((y : Rat) + 6 * ((M - m : Int) : Rat)) / ((M - m : Int) : Rat) / 6 = (y : Rat) / ((M - m : Int) : Rat) / 6 + 1 := by
        generalize ((M - m : Int) : Rat) = sp at *
        grind
      rw [e7]
      exact ⟨ka.fin, by grind, by grind⟩
    · have e1 := eqz e
      have e2 := ik1 (by grind) (by grind)
      rw [hnp (by omega)]
      have e0 : ((0 : Int) : Rat) = 0 := rfl
      have e3 := kf (by grind)
      rw [e2, e0] at e3
      exact ⟨ka.fin, by grind, by grind⟩
    · have e1 := step (by omega)
      have e2 := ik1 (by grind) (by grind)
      rw [hnp (by omega)]
      have e0 : ((0 : Int) : Rat) = 0 := rfl
      have e3 := kf (by grind)
      rw [e2, e0] at e3
      exact ⟨ka.fin, by grind, by grind⟩
end
end
end
section
section
open PySem PySem.Flt PySem.Float64
section
variable {r g b top M m : Int} (C : Col r g b top M m)
include C
theorem Col.fr : (0 : Rat) ≤ (M : Rat) / top ∧ (M : Rat) / top ≤ 1 ∧ 0 ≤ (m : Rat) / top ∧ (m : Rat) / top ≤ 1 := by
  have tp := castR_pos C.d.p
  exact ⟨le_div_of tp (by have := castR_nn C.M0.1; grind), div_le_of tp (by have := castR_le C.M0.2.1; grind), le_div_of tp (by have := castR_nn C.M0.2.2.1; grind), div_le_of tp (by have := castR_le C.M0.2.2.2.1; grind)⟩
/-- the spread as a float lies between 0 and the greatest -/
theorem Col.rg_b : 0 ≤ fv (rg (sh r top) (sh g top) (sh b top)) ∧ fv (rg (sh r top) (sh g top) (sh b top)) ≤ fv (sh M top) := by
  obtain ⟨a, a0, a1⟩ := C.sM
  obtain ⟨c, c0, c1⟩ := C.sm
  have hle := (sh_le_iff C.d C.M0.2.2.1 C.M0.2.2.2.1 C.M0.1 C.M0.2.1).mpr C.M0.2.2.2.2
  have hr := sub_rnd a.fin c.fin (big_of (by grind) (by grind))
  unfold rg
  rw [C.max, C.min]
  have l1 := rnd_le hr a.fin (by grind)
  have l2 := rnd_ge hr fin_z (by rw [fv_z]; grind)
  rw [fv_z] at l2
  exact ⟨l2, l1⟩
theorem Col.satV_ap : Ap (satV (sh r top) (sh g top) (sh b top)) (((M - m : Int) : Rat) / M) (6 * (uu * top / M)) ∧ 0 ≤ fv (satV (sh r top) (sh g top) (sh b top)) ∧ fv (satV (sh r top) (sh g top) (sh b top)) ≤ 1 := by
  have hg := C.grey
  have hM := C.M0
  have u0 := uu0
  have us := uus
  have tp := castR_pos C.d.p
  have t2 := C.d.r.2
  by_cases h : M - m = 0
  · have e : satV (sh r top) (sh g top) (sh b top) = 0 := by unfold satV; rw [if_pos (hg.mpr h)]
    rw [e, h]
    have e0 : ((0 : Int) : Rat) = 0 := rfl
    have e1 : (0 : Rat) ≤ uu * top / M := by
      rcases Int.lt_or_le 0 M with h1 | h1
      · exact le_div_of (castR_pos h1) (by have := Rat.mul_nonneg u0 (Rat.le_of_lt tp); grind)
      · have : M = 0 := by omega
        rw [this, e0, Rat.div_def, Rat.inv_zero]; grind
    rw [e0, fv_z]
    exact ⟨⟨fin_z, by rw [fv_z]; grind, by rw [fv_z]; grind⟩, by decide, by decide⟩
  · have ng : ¬ Mine.grey (sh r top) (sh g top) (sh b top) = true := fun e => h (hg.mp e)
    have hval : satV (sh r top) (sh g top) (sh b top) = div (rg (sh r top) (sh g top) (sh b top)) (sh M top) := by unfold satV; rw [if_neg ng, C.max]
    rw [hval]
    have Mp : 0 < (M : Rat) := castR_pos (by omega)
    have M1 : (1 : Rat) ≤ (M : Rat) := castR_le (show 1 ≤ M by omega)
    have M2 := castR_le hM.2.1
    obtain ⟨k1, k2⟩ := C.kap h
    have k3 := castR_le (show M - m ≤ M by omega)
    obtain ⟨a, a0, a1⟩ := C.sM
    have hr := C.rg_ap
    obtain ⟨b0, b1⟩ := C.rg_b
    generalize ((M - m : Int) : Rat) = sp at *
    have e2 : sp / top = sp / M * (M / top) := by grind
    rw [e2] at hr
    have z0 : 0 ≤ sp / M := le_div_of Mp (by grind)
    have z1 : sp / M ≤ 1 := div_le_of Mp (by grind)
    have l1 : 1 / 16384 ≤ (M : Rat) / top := by
      have h1 : 1 / (top : Rat) ≤ M / top := div_le_div tp M1
      have h2 : 1 / 16384 ≤ 1 / (top : Rat) := le_div_of tp (by grind)
      grind
    have g1 := quo_ge u0 Mp M2
    have g2 := quo_le u0 M1 (Rat.le_of_lt tp) t2
    have e3 := halfm 5 (canc (u := uu) tp Mp)
    have q := ap_div (g := 6 * (uu * top / M)) 1 (M / top) (5 * (uu * top / M)) hr a (by grind) (by grind) (by grind) (by grind) (by grind) (by rw [e3]; grind) (by grind) (by grind) (by grind)
    have al := a.lo
    have vp : 0 < fv (sh M top) := by grind
    have qq : fv (rg (sh r top) (sh g top) (sh b top)) / fv (sh M top) ≤ 1 := div_le_of vp (by grind)
    have q0 : 0 ≤ fv (rg (sh r top) (sh g top) (sh b top)) / fv (sh M top) := le_div_of vp (by grind)
    have dr := div_rnd hr.fin a.fin (by grind) (big_of (by grind) (by grind))
    have d1 := rnd_le dr fin_c1 (by rw [fv_c1]; exact qq)
    have d0 := rnd_ge dr fin_z (by rw [fv_z]; exact q0)
    rw [fv_c1] at d1
    rw [fv_z] at d0
    exact ⟨q, d0, d1⟩
theorem Col.sum_ap : Ap (add (sh M top) (sh m top)) (((M + m : Int) : Rat) / top) (2 * uu) ∧ 0 ≤ fv (add (sh M top) (sh m top)) ∧ fv (add (sh M top) (sh m top)) ≤ 2 := by
  have u0 := uu0
  have us := uus
  have tp := castR_pos C.d.p
  obtain ⟨a, a0, a1⟩ := C.sM
  obtain ⟨c, c0, c1⟩ := C.sm
  obtain ⟨f1, f2, f3, f4⟩ := C.fr
  have q := ap_add (g := 2 * uu) a c (by grind) (by grind) (by grind) (by grind)
  have e : ((M + m : Int) : Rat) / top = (M : Rat) / top + m / top := by rw [Rat.intCast_add]; grind
  rw [e]
  have hr := add_rnd a.fin c.fin (big_of (by grind) (by grind))
  have d1 := rnd_le hr fin_c2 (by rw [fv_c2]; grind)
  have d0 := rnd_ge hr fin_z (by rw [fv_z]; grind)
  rw [fv_c2] at d1
  rw [fv_z] at d0
  exact ⟨q, d0, d1⟩
theorem Col.light_ap : Ap (light (sh r top) (sh g top) (sh b top)) (((M + m : Int) : Rat) / (2 * top)) (3 * uu) ∧ 0 ≤ fv (light (sh r top) (sh g top) (sh b top)) ∧ fv (light (sh r top) (sh g top) (sh b top)) ≤ 1 := by
  have u0 := uu0
  have us := uus
  have tp := castR_pos C.d.p
  obtain ⟨q, q0, q1⟩ := C.sum_ap
  unfold light
  rw [C.max, C.min]
  have l0 := castR_nn (show 0 ≤ M + m by have := C.M0; omega)
  have l1 := castR_le (show M + m ≤ 2 * top by have := C.M0; omega)
  rw [Rat.intCast_mul] at l1
  have e2 : ((2 : Int) : Rat) = 2 := rfl
  rw [e2] at l1
  have x0 : 0 ≤ ((M + m : Int) : Rat) / (2 * top) := le_div_of (by grind) (by grind)
  have x1 : ((M + m : Int) : Rat) / (2 * top) ≤ 1 := div_le_of (by grind) (by grind)
  have e : ((M + m : Int) : Rat) / top = ((M + m : Int) : Rat) / (2 * top) * fv c2 := by rw [fv_c2]; grind
  rw [e] at q
  have d := ap_div (g := 3 * uu) 1 2 (2 * uu) q (ap_self fin_c2) (by grind) (by grind) (by rw [fv_c2]; grind) (by decide) (by decide +kernel) (by grind) (by grind) (by grind) (by grind)
  have hr := div_rnd q.fin fin_c2 (by rw [fv_c2]; decide) (big_of (by rw [fv_c2]; grind) (by rw [fv_c2]; grind))
  have d1 := rnd_le hr fin_c1 (by rw [fv_c1, fv_c2]; grind)
  have d0 := rnd_ge hr fin_z (by rw [fv_z, fv_c2]; grind)
  rw [fv_c1] at d1
  rw [fv_z] at d0
  exact ⟨d, d0, d1⟩
/-- l, s -/
theorem Col.satL_ap : Ap (satL (sh r top) (sh g top) (sh b top)) (((M - m : Int) : Rat) / ((Min.min (M + m) (2 * top - (M + m)) : Int) : Rat)) (11 * (uu * top / ((Min.min (M + m) (2 * top - (M + m)) : Int) : Rat))) ∧ 0 ≤ fv (satL (sh r top) (sh g top) (sh b top)) ∧ fv (satL (sh r top) (sh g top) (sh b top)) ≤ 101 / 100 := by
  have hg := C.grey
  have hM := C.M0
  have u0 := uu0
  have us := uus
  have tp := castR_pos C.d.p
  have t2 := C.d.r.2
  generalize hmd : Min.min (M + m) (2 * top - (M + m)) = md
  by_cases h : M - m = 0
  · have e : satL (sh r top) (sh g top) (sh b top) = 0 := by unfold satL; rw [if_pos (hg.mpr h)]
    rw [e, h]
    have e0 : ((0 : Int) : Rat) = 0 := rfl
    have e1 : (0 : Rat) ≤ uu * top / md := by
      rcases Int.lt_or_le 0 md with h1 | h1
      · exact le_div_of (castR_pos h1) (by have := Rat.mul_nonneg u0 (Rat.le_of_lt tp); grind)
      · have : md = 0 := by omega
        rw [this, e0, Rat.div_def, Rat.inv_zero]; grind
    rw [e0, fv_z]
    exact ⟨⟨fin_z, by rw [fv_z]; grind, by rw [fv_z]; grind⟩, by decide, by decide +kernel⟩
  · have ng : ¬ Mine.grey (sh r top) (sh g top) (sh b top) = true := fun e => h (hg.mp e)
    have mdp : 0 < md := by omega
    have Mp : 0 < (md : Rat) := castR_pos (by omega)
    have M1 : (1 : Rat) ≤ (md : Rat) := castR_le (show 1 ≤ md by omega)
    have M2 := castR_le (show md ≤ top by omega)
    obtain ⟨k1, k2⟩ := C.kap h
    have k3 := castR_le (show M - m ≤ md by omega)
    obtain ⟨a, a0, a1⟩ := C.sM
    obtain ⟨c, c0, c1⟩ := C.sm
    obtain ⟨f1, f2, f3, f4⟩ := C.fr
    have hr := C.rg_ap
    obtain ⟨b0, b1⟩ := C.rg_b
    obtain ⟨la, l0, l1⟩ := C.light_ap
    obtain ⟨sa, s0, s1⟩ := C.sum_ap
    generalize ((M - m : Int) : Rat) = sp at *
    have e2 : sp / top = sp / md * (md / top) := by grind
    rw [e2] at hr
    have z0 : 0 ≤ sp / md := le_div_of Mp (by grind)
    have z1 : sp / md ≤ 1 := div_le_of Mp (by grind)
    have lo1 : 1 / 16384 ≤ (md : Rat) / top := by
      have h1 : 1 / (top : Rat) ≤ md / top := div_le_div tp M1
      have h2 : 1 / 16384 ≤ 1 / (top : Rat) := le_div_of tp (by grind)
      grind
    have g1 := quo_ge u0 Mp M2
    have g2 := quo_le u0 M1 (Rat.le_of_lt tp) t2
    have e3 := halfm 10 (canc (u := uu) tp Mp)
    have fin : ∀ y : UInt64, Ap y (md / top) (3 * uu) → Ap (div (rg (sh r top) (sh g top) (sh b top)) y) (sp / md) (11 * (uu * top / md)) ∧ 0 ≤ fv (div (rg (sh r top) (sh g top) (sh b top)) y) ∧ fv (div (rg (sh r top) (sh g top) (sh b top)) y) ≤ 101 / 100 := fun y hy => by
      have q := ap_div (g := 11 * (uu * top / md)) 1 (md / top) (10 * (uu * top / md)) hr hy (by grind) (by grind) (by grind) (by grind) (by grind) (by rw [e3]; grind) (by grind) (by grind) (by grind)
      have yl := hy.lo; have yh := hy.hi
      have vp : 0 < fv y := by grind
      have q1 := q.lo; have q2 := q.hi
      have rl := hr.lo; have rh := hr.hi
      have q0 : 0 ≤ fv (rg (sh r top) (sh g top) (sh b top)) / fv y := le_div_of vp (by grind)
      have qq : fv (rg (sh r top) (sh g top) (sh b top)) / fv y ≤ 16385 := by
        apply div_le_of vp; grind
      have dr := div_rnd hr.fin hy.fin (by grind) (big_of (by grind) (by grind))
      have d0 := rnd_ge dr fin_z (by rw [fv_z]; exact q0)
      rw [fv_z] at d0
      exact ⟨q, d0, by grind⟩
    have ltop : ((M + m : Int) : Rat) / (2 * top) * (2 * top) = ((M + m : Int) : Rat) := by grind
    have hu : (top : Rat) * uu ≤ 16384 * uu := Rat.mul_le_mul_of_nonneg_right t2 u0
    unfold satL
    rw [if_neg ng]
    by_cases hc : fle (light (sh r top) (sh g top) (sh b top)) cHalf = true
    · rw [if_pos hc]
      have hc' := (fle_iff la.fin fin_half).mp hc
      rw [fv_half] at hc'
      have lal := la.lo
      have : M + m ≤ top := by
        apply int_lt_of
        have h1 : ((M + m : Int) : Rat) / (2 * top) ≤ 1 / 2 + 3 * uu := by grind
        have h2 := Rat.mul_le_mul_of_nonneg_right h1 (show 0 ≤ 2 * (top : Rat) by grind)
        rw [ltop] at h2
        grind
      have em : md = M + m := by omega
      rw [C.max, C.min]
      apply fin
      rw [em]
      exact sa.wide (by grind)
    · rw [if_neg hc]
      have hc' := not_fle la.fin fin_half hc
      rw [fv_half] at hc'
      have lah := la.hi
      have : top ≤ M + m := by
        apply int_lt_of
        have h1 : 1 / 2 - 3 * uu ≤ ((M + m : Int) : Rat) / (2 * top) := by grind
        have h2 := Rat.mul_le_mul_of_nonneg_right h1 (show 0 ≤ 2 * (top : Rat) by grind)
        rw [ltop] at h2
        grind
      have em : md = 2 * top - (M + m) := by omega
      rw [C.max, C.min]
      apply fin
      rw [em]
      have w1 := ap_sub (g := 3 / 2 * uu) (ap_self fin_c2) a (by rw [fv_c2]; grind) (by rw [fv_c2]; grind) (by grind) (by grind)
      rw [fv_c2] at w1
      have w2 := ap_sub (g := 3 * uu) w1 c (by grind) (by grind) (by grind) (by grind)
      have e : ((2 * top - (M + m) : Int) : Rat) / top = 2 - (M : Rat) / top - m / top := by
        rw [Rat.intCast_sub, Rat.intCast_mul, Rat.intCast_add]
        have e2 : ((2 : Int) : Rat) = 2 := rfl
        rw [e2]; grind
      rw [e]; exact w2
end
end
end
section
section
open PySem PySem.Flt PySem.Float64
theorem ap_const {c : UInt64} {n : Int} {d : Nat} {X e : Rat} (hf : isFinite c = true) (hd : d ≠ 0) (h : val c * d = n * 2 ^ 1074) (h1 : X - e ≤ (n : Rat) / (d : Rat)) (h2 : (n : Rat) / (d : Rat) ≤ X + e) : Ap c X e := by
  have hv := const_fv hd h
  exact ⟨fin_of hf, by rw [hv]; exact h1, by rw [hv]; exact h2⟩
theorem ap_k30 : Ap 4599075939470750515 (3 / 10) (uu / 2) := ap_const (n := 5404319552844595) (d := 18014398509481984) (by kernel_rfl) (by decide) (by kernel_rfl) (by decide +kernel) (by decide +kernel)
theorem ap_k59 : Ap 4603489467105573601 (59 / 100) (uu / 2) := ap_const (n := 5314247560297185) (d := 9007199254740992) (by kernel_rfl) (by decide) (by kernel_rfl) (by decide +kernel) (by decide +kernel)
theorem ap_k11 : Ap 4592590756007337001 (11 / 100) (uu / 2) := ap_const (n := 7926335344172073) (d := 72057594037927936) (by kernel_rfl) (by decide) (by kernel_rfl) (by decide +kernel) (by decide +kernel)
theorem ap_k74 : Ap 4604840546993784750 (37 / 50) (uu / 2) := ap_const (n := 3332663724254167) (d := 4503599627370496) (by kernel_rfl) (by decide) (by kernel_rfl) (by decide +kernel) (by decide +kernel)
theorem ap_k27 : Ap 4598535507515466056 (27 / 100) (uu / 2) := ap_const (n := 607985949695017) (d := 2251799813685248) (by kernel_rfl) (by decide) (by kernel_rfl) (by decide +kernel) (by decide +kernel)
theorem ap_k48 : Ap 4602318531202457272 (12 / 25) (uu / 2) := ap_const (n := 1080863910568919) (d := 2251799813685248) (by kernel_rfl) (by decide) (by kernel_rfl) (by decide +kernel) (by decide +kernel)
theorem ap_k41 : Ap 4601057523306793533 (41 / 100) (uu / 2) := ap_const (n := 7385903388887613) (d := 18014398509481984) (by kernel_rfl) (by decide) (by kernel_rfl) (by decide +kernel) (by decide +kernel)
theorem ap_ra : Ap 4606703976345377586 (410 / 433) (uu / 2) := ap_const (n := 4264378400050585) (d := 4503599627370496) (by kernel_rfl) (by decide) (by kernel_rfl) (by decide +kernel) (by decide +kernel)
theorem ap_rb : Ap 4603791717925830846 (270 / 433) (uu / 2) := ap_const (n := 2808249190277215) (d := 4503599627370496) (by kernel_rfl) (by decide) (by kernel_rfl) (by decide +kernel) (by decide +kernel)
theorem ap_ga : Ap 4598621754083818298 (7020 / 25547) (uu / 2) := ap_const (n := 2475067082956189) (d := 9007199254740992) (by kernel_rfl) (by decide) (by kernel_rfl) (by decide +kernel) (by decide +kernel)
theorem ap_gb : Ap 4603901015759978483 (16240 / 25547) (uu / 2) := ap_const (n := 5725796214702067) (d := 9007199254740992) (by kernel_rfl) (by decide) (by kernel_rfl) (by decide +kernel) (by decide +kernel)
theorem ap_ba : Ap 4607671262177584182 (480 / 433) (uu / 2) := ap_const (n := 2496221502468635) (d := 2251799813685248) (by kernel_rfl) (by decide) (by kernel_rfl) (by decide +kernel) (by decide +kernel)
theorem ap_bb : Ap 4610375502138591871 (740 / 433) (uu / 2) := ap_const (n := 7696682965944959) (d := 4503599627370496) (by kernel_rfl) (by decide) (by kernel_rfl) (by decide +kernel) (by decide +kernel)
section
variable {r g b : UInt64} {R G B : Rat}
theorem yiqY_ap (hr : Ap r R uu) (hg : Ap g G uu) (hb : Ap b B uu) (r0 : 0 ≤ R) (r1 : R ≤ 1) (g0 : 0 ≤ G) (g1 : G ≤ 1) (b0 : 0 ≤ B) (b1 : B ≤ 1) : Ap (yiqY r g b) (3 / 10 * R + 59 / 100 * G + 11 / 100 * B) (12 * uu) := by
  have u0 := uu0
  have us : uu ≤ 1 / 1000000 := by decide +kernel
  have m1 := ap_mul (g := 3 * uu) 1 1 ap_k30 hr (by grind) (by grind) (by grind) (by grind) (by grind) (by grind)
  have m2 := ap_mul (g := 3 * uu) 1 1 ap_k59 hg (by grind) (by grind) (by grind) (by grind) (by grind) (by grind)
  have m3 := ap_mul (g := 3 * uu) 1 1 ap_k11 hb (by grind) (by grind) (by grind) (by grind) (by grind) (by grind)
  have a1 := ap_add (g := 7 * uu) m1 m2 (by grind) (by grind) (by grind) (by grind)
  exact ap_add (g := 12 * uu) a1 m3 (by grind) (by grind) (by grind) (by grind)
theorem yiqI_ap (hr : Ap r R uu) (hg : Ap g G uu) (hb : Ap b B uu) (r0 : 0 ≤ R) (r1 : R ≤ 1) (g0 : 0 ≤ G) (g1 : G ≤ 1) (b0 : 0 ≤ B) (b1 : B ≤ 1) : Ap (yiqI r g b) (599 / 1000 * R - 2773 / 10000 * G - 3217 / 10000 * B) (30 * uu) := by
  have u0 := uu0
  have us : uu ≤ 1 / 1000000 := by decide +kernel
  have y := yiqY_ap hr hg hb r0 r1 g0 g1 b0 b1
  have d1 := ap_sub (g := 14 * uu) hr y (by grind) (by grind) (by grind) (by grind)
  have d2 := ap_sub (g := 14 * uu) hb y (by grind) (by grind) (by grind) (by grind)
  have m1 := ap_mul (g := 13 * uu) (3 / 4) 1 ap_k74 d1 (by grind) (by grind) (by grind) (by grind) (by grind) (by grind)
  have m2 := ap_mul (g := 7 * uu) (3 / 10) 1 ap_k27 d2 (by grind) (by grind) (by grind) (by grind) (by grind) (by grind)
  have e := ap_sub (g := 30 * uu) m1 m2 (by grind) (by grind) (by grind) (by grind)
  have h : 599 / 1000 * R - 2773 / 10000 * G - 3217 / 10000 * B = 37 / 50 * (R - (3 / 10 * R + 59 / 100 * G + 11 / 100 * B)) - 27 / 100 * (B - (3 / 10 * R + 59 / 100 * G + 11 / 100 * B)) := by grind
  rw [h]; exact e
theorem yiqQ_ap (hr : Ap r R uu) (hg : Ap g G uu) (hb : Ap b B uu) (r0 : 0 ≤ R) (r1 : R ≤ 1) (g0 : 0 ≤ G) (g1 : G ≤ 1) (b0 : 0 ≤ B) (b1 : B ≤ 1) : Ap (yiqQ r g b) (213 / 1000 * R - 5251 / 10000 * G + 3121 / 10000 * B) (30 * uu) := by
  have u0 := uu0
  have us : uu ≤ 1 / 1000000 := by decide +kernel
  have y := yiqY_ap hr hg hb r0 r1 g0 g1 b0 b1
  have d1 := ap_sub (g := 14 * uu) hr y (by grind) (by grind) (by grind) (by grind)
  have d2 := ap_sub (g := 14 * uu) hb y (by grind) (by grind) (by grind) (by grind)
  have m1 := ap_mul (g := 10 * uu) (1 / 2) 1 ap_k48 d1 (by grind) (by grind) (by grind) (by grind) (by grind) (by grind)
  have m2 := ap_mul (g := 10 * uu) (1 / 2) 1 ap_k41 d2 (by grind) (by grind) (by grind) (by grind) (by grind) (by grind)
  have e := ap_add (g := 30 * uu) m1 m2 (by grind) (by grind) (by grind) (by grind)
  have h : 213 / 1000 * R - 5251 / 10000 * G + 3121 / 10000 * B = 12 / 25 * (R - (3 / 10 * R + 59 / 100 * G + 11 / 100 * B)) + 41 / 100 * (B - (3 / 10 * R + 59 / 100 * G + 11 / 100 * B)) := by grind
  rw [h]; exact e
end
noncomputable def cl01 (x : Rat) : Rat := if x ≤ 0 then 0 else if 1 ≤ x then 1 else x
theorem clamp_ap {x : UInt64} {X e : Rat} (h : Ap x X e) : Ap (clampF x) (cl01 X) e := by
  have h1 := h.lo; have h2 := h.hi
  have he : 0 ≤ e := by grind
  unfold clampF
  by_cases c : flt x 0 = true
  · rw [if_pos c]
    have c' := (flt_iff h.fin fin_z).mp c
    rw [fv_z] at c'
    exact ⟨fin_z, by rw [fv_z]; unfold cl01; grind, by rw [fv_z]; unfold cl01; grind⟩
  · rw [if_neg c]
    have c' := not_flt h.fin fin_z c
    rw [fv_z] at c'
    by_cases d : fgt x c1 = true
    · rw [if_pos d]
      have d' := (fgt_iff h.fin fin_c1).mp d
      rw [fv_c1] at d'
      exact ⟨fin_c1, by rw [fv_c1]; unfold cl01; grind, by rw [fv_c1]; unfold cl01; grind⟩
    · rw [if_neg d]
      have d' : fv x ≤ 1 := by
        rw [fgt_iff h.fin fin_c1, fv_c1] at d; grind
      exact ⟨h.fin, by unfold cl01; grind, by unfold cl01; grind⟩
section
variable {y i q : UInt64} {Y I Q e : Rat} (hy : Ap y Y e) (hi : Ap i I e) (hq : Ap q Q e) (y0 : -4 ≤ Y) (y1 : Y ≤ 4) (i0 : -3 ≤ I) (i1 : I ≤ 3) (q0 : -3 ≤ Q) (q1 : Q ≤ 3) (e0 : 0 ≤ e) (e1 : e ≤ 1 / 1000)
include hy hi hq y0 y1 i0 i1 q0 q1 e0 e1
theorem yR_ap : Ap (yR y i q) (cl01 (Y + 410 / 433 * I + 270 / 433 * Q)) (4 * e + 10 * uu) := by
  have u0 := uu0
  have us : uu ≤ 1 / 1000000 := by decide +kernel
  have m1 := ap_mul (g := 11 / 10 * e + 3 * uu) (1) 3 ap_ra hi (by grind) (by grind) (by grind) (by grind) (by grind) (by grind)
  have m2 := ap_mul (g := 11 / 10 * e + 3 * uu) (1) 3 ap_rb hq (by grind) (by grind) (by grind) (by grind) (by grind) (by grind)
  have a1 := ap_add (g := 21 / 10 * e + 4 * uu) hy m1 (by grind) (by grind) (by grind) (by grind)
  exact clamp_ap (ap_add (g := 4 * e + 10 * uu) a1 m2 (by grind) (by grind) (by grind) (by grind))
theorem yG_ap : Ap (yG y i q) (cl01 (Y - 7020 / 25547 * I - 16240 / 25547 * Q)) (4 * e + 10 * uu) := by
  have u0 := uu0
  have us : uu ≤ 1 / 1000000 := by decide +kernel
  have m1 := ap_mul (g := 11 / 10 * e + 3 * uu) (1) 3 ap_ga hi (by grind) (by grind) (by grind) (by grind) (by grind) (by grind)
  have m2 := ap_mul (g := 11 / 10 * e + 3 * uu) (1) 3 ap_gb hq (by grind) (by grind) (by grind) (by grind) (by grind) (by grind)
  have a1 := ap_sub (g := 21 / 10 * e + 4 * uu) hy m1 (by grind) (by grind) (by grind) (by grind)
  exact clamp_ap (ap_sub (g := 4 * e + 10 * uu) a1 m2 (by grind) (by grind) (by grind) (by grind))
theorem yB_ap : Ap (yB y i q) (cl01 (Y - 480 / 433 * I + 740 / 433 * Q)) (4 * e + 10 * uu) := by
  have u0 := uu0
  have us : uu ≤ 1 / 1000000 := by decide +kernel
  have m1 := ap_mul (g := 112 / 100 * e + 3 * uu) (111 / 100) 3 ap_ba hi (by grind) (by grind) (by grind) (by grind) (by grind) (by grind)
  have m2 := ap_mul (g := 172 / 100 * e + 3 * uu) (171 / 100) 3 ap_bb hq (by grind) (by grind) (by grind) (by grind) (by grind) (by grind)
  have a1 := ap_sub (g := 212 / 100 * e + 4 * uu) hy m1 (by grind) (by grind) (by grind) (by grind)
  exact clamp_ap (ap_add (g := 4 * e + 10 * uu) a1 m2 (by grind) (by grind) (by grind) (by grind))
end
end
end
section
section
open PySem PySem.Flt PySem.Float64
theorem tzv {y m : Rat} (k : Int) (h : y - 6 * (k : Rat) = m) (m0 : 0 ≤ m) (m6 : m ≤ 6) : tz y = tr m := by
  rw [tz_at k (by rw [h]; exact m0) (by rw [h]; exact m6), h]
theorem i0 : ((0 : Int) : Rat) = 0 := rfl
theorem i1 : ((1 : Int) : Rat) = 1 := rfl
theorem i2 : ((2 : Int) : Rat) = 2 := rfl
theorem i4 : ((4 : Int) : Rat) = 4 := rfl
theorem i6 : ((6 : Int) : Rat) = 6 := rfl
theorem im1 : ((-1 : Int) : Rat) = -1 := rfl
section
variable {x : Rat} (x0 : 0 ≤ x) (x1 : x ≤ 1)
include x0 x1
theorem tz_s0 : tz (x + 2) = 1 ∧ tz (x + 0) = x ∧ tz (x + -2) = 0 := by
  refine ⟨?_, ?_, ?_⟩
  · rw [tzv (m := x + 2) 0 (by rw [i0]; grind) (by grind) (by grind)]; unfold tr; grind
  · rw [tzv (m := x) 0 (by rw [i0]; grind) (by grind) (by grind)]; unfold tr; grind
  · rw [tzv (m := x + 4) (-1) (by rw [im1]; grind) (by grind) (by grind)]; unfold tr; grind
theorem tz_s5 : tz (6 - x + 2) = 1 ∧ tz (6 - x + 0) = 0 ∧ tz (6 - x + -2) = x := by
  refine ⟨?_, ?_, ?_⟩
  · rw [tzv (m := 2 - x) 1 (by rw [i1]; grind) (by grind) (by grind)]; unfold tr; grind
  · rw [tzv (m := 6 - x) 0 (by rw [i0]; grind) (by grind) (by grind)]; unfold tr; grind
  · rw [tzv (m := 4 - x) 0 (by rw [i0]; grind) (by grind) (by grind)]; unfold tr; grind
theorem tz_s2 : tz (2 + x + 2) = 0 ∧ tz (2 + x + 0) = 1 ∧ tz (2 + x + -2) = x := by
  refine ⟨?_, ?_, ?_⟩
  · rw [tzv (m := 4 + x) 0 (by rw [i0]; grind) (by grind) (by grind)]; unfold tr; grind
  · rw [tzv (m := 2 + x) 0 (by rw [i0]; grind) (by grind) (by grind)]; unfold tr; grind
  · rw [tzv (m := x) 0 (by rw [i0]; grind) (by grind) (by grind)]; unfold tr; grind
theorem tz_s1 : tz (2 - x + 2) = x ∧ tz (2 - x + 0) = 1 ∧ tz (2 - x + -2) = 0 := by
  refine ⟨?_, ?_, ?_⟩
  · rw [tzv (m := 4 - x) 0 (by rw [i0]; grind) (by grind) (by grind)]; unfold tr; grind
  · rw [tzv (m := 2 - x) 0 (by rw [i0]; grind) (by grind) (by grind)]; unfold tr; grind
  · rw [tzv (m := 6 - x) (-1) (by rw [im1]; grind) (by grind) (by grind)]; unfold tr; grind
theorem tz_s4 : tz (4 + x + 2) = x ∧ tz (4 + x + 0) = 0 ∧ tz (4 + x + -2) = 1 := by
  refine ⟨?_, ?_, ?_⟩
  · rw [tzv (m := x) 1 (by rw [i1]; grind) (by grind) (by grind)]; unfold tr; grind
  · rw [tzv (m := 4 + x) 0 (by rw [i0]; grind) (by grind) (by grind)]; unfold tr; grind
  · rw [tzv (m := 2 + x) 0 (by rw [i0]; grind) (by grind) (by grind)]; unfold tr; grind
theorem tz_s3 : tz (4 - x + 2) = 0 ∧ tz (4 - x + 0) = x ∧ tz (4 - x + -2) = 1 := by
  refine ⟨?_, ?_, ?_⟩
  · rw [tzv (m := 6 - x) 0 (by rw [i0]; grind) (by grind) (by grind)]; unfold tr; grind
  · rw [tzv (m := 4 - x) 0 (by rw [i0]; grind) (by grind) (by grind)]; unfold tr; grind
  · rw [tzv (m := 2 - x) 0 (by rw [i0]; grind) (by grind) (by grind)]; unfold tr; grind
end
/-- the colour told by its least, its spread and its hue (in sixths) -/
structure Rep (r g b m sp y : Rat) : Prop where
  r : r = m + sp * tz (y + 2)
  g : g = m + sp * tz (y + 0)
  b : b = m + sp * tz (y + -2)
theorem Rep.of {r g b m sp y t1 t2 t3 : Rat} (h : tz (y + 2) = t1 ∧ tz (y + 0) = t2 ∧ tz (y + -2) = t3) (e1 : r = m + sp * t1) (e2 : g = m + sp * t2) (e3 : b = m + sp * t3) : Rep r g b m sp y := by
  obtain ⟨rfl, rfl, rfl⟩ := h
  exact ⟨e1, e2, e3⟩
theorem least3 {x y z m : Int} (h : x = m ∨ y = m ∨ z = m) (hx : x ≠ m) : (y ≤ z → m ≤ y → y = m) ∧ (z ≤ y → m ≤ z → z = m) := by
  rcases h with e | e | e
  · exact absurd e hx
  · exact ⟨fun _ _ => e, fun a b => Int.le_antisymm (e ▸ a) b⟩
  · exact ⟨fun a b => Int.le_antisymm (e ▸ a) b, fun _ _ => e⟩
/-- the parts of a hue -/
theorem hue_q {a s : Int} (hs : 0 < s) (a0 : 0 ≤ a) (a1 : a ≤ s) : 0 ≤ (a : Rat) / (s : Rat) ∧ (a : Rat) / (s : Rat) ≤ 1 ∧ (s : Rat) * ((a : Rat) / (s : Rat)) = a := by
  have hp := castR_pos hs
  exact ⟨le_div_of hp (by rw [Rat.zero_mul]; exact castR_nn a0), div_le_of hp (by rw [Rat.one_mul]; exact castR_le a1), by rw [Rat.mul_comm]; exact Rat.div_mul_cancel (Rat.ne_of_gt hp)⟩
theorem hue_n {k a b s : Int} (hs : 0 < s) (h : a = k * s + b) : ((a : Int) : Rat) / (s : Rat) = (k : Rat) + (b : Rat) / (s : Rat) := by
  rw [h, Rat.intCast_add, Rat.intCast_mul, q_add (Rat.ne_of_gt (castR_pos hs))]
theorem hue_m {k a b s : Int} (hs : 0 < s) (h : a = k * s + -b) : ((a : Int) : Rat) / (s : Rat) = (k : Rat) - (b : Rat) / (s : Rat) := by
  rw [hue_n hs h, Rat.intCast_neg, q_neg, ← Rat.sub_eq_add_neg]
section
variable {r g b top M m : Int} (C : Col r g b top M m)
include C
theorem Col.rep : Rep (r : Rat) (g : Rat) (b : Rat) (m : Rat) ((M - m : Int) : Rat) ((hn r g b M (M - m) : Rat) / ((M - m : Int) : Rat)) := by
  have bd := C.bd
  have att := C.att
  by_cases h : M - m = 0
  · have eM : M = m := Int.eq_of_sub_eq_zero h
    rw [h, i0, Int.le_antisymm (eM ▸ bd.1.2) bd.1.1, Int.le_antisymm (eM ▸ bd.2.1.2) bd.2.1.1, Int.le_antisymm (eM ▸ bd.2.2.2) bd.2.2.1]
    exact ⟨by rw [Rat.zero_mul, Rat.add_zero], by rw [Rat.zero_mul, Rat.add_zero], by rw [Rat.zero_mul, Rat.add_zero]⟩
  · have hs : 0 < M - m := Int.lt_iff_le_and_ne.mpr ⟨Int.sub_nonneg_of_le C.M0.2.2.2.2, Ne.symm h⟩
    have hne : ∀ {x : Int}, x = M → x ≠ m := fun e e2 => h (by rw [← e, e2, Int.sub_self])
    have at0 : ∀ x : Int, x = m → (x : Rat) = (m : Rat) + ((M - m : Int) : Rat) * 0 := fun x e => by rw [e]; exact z_at0 _ _
    have at1 : ∀ x : Int, x = M → (x : Rat) = (m : Rat) + ((M - m : Int) : Rat) * 1 := fun x e => by rw [e, Rat.intCast_sub]; exact z_at1 _ _
    have atq : ∀ {x y : Int}, y = m → ((M - m : Int) : Rat) * (((x - y : Int) : Rat) / ((M - m : Int) : Rat)) = ((x - y : Int) : Rat) → (x : Rat) = (m : Rat) + ((M - m : Int) : Rat) * (((x - y : Int) : Rat) / ((M - m : Int) : Rat)) := fun e q => by rw [q]; exact c_sub e
    unfold hn
    by_cases c : r = M
    · have le := least3 att.2 (hne c)
      rw [if_pos c]
      by_cases d : g < b
      · have eg : g = m := le.1 (Int.le_of_lt d) bd.2.1.1
        have x := hue_q hs (Int.sub_nonneg_of_le (Int.le_of_lt d)) (Int.sub_le_sub bd.2.2.2 bd.2.1.1)
        rw [if_pos d, hue_m (k := 6) (b := b - g) hs (by rw [Int.neg_sub, Int.add_comm])]
        exact Rep.of (tz_s5 x.1 x.2.1) (at1 _ c) (at0 _ eg) (atq eg x.2.2)
      · have d' := Int.not_lt.mp d
        have eb : b = m := le.2 d' bd.2.2.1
        have x := hue_q hs (Int.sub_nonneg_of_le d') (Int.sub_le_sub bd.2.1.2 bd.2.2.1)
        rw [if_neg d]
        exact Rep.of (tz_s0 x.1 x.2.1) (at1 _ c) (atq eb x.2.2) (at0 _ eb)
    · rw [if_neg c]
      by_cases d : g = M
      · have le := least3 (att.2.elim (fun e => .inr (.inl e)) fun e => e.elim .inl fun e => .inr (.inr e)) (hne d)
        rw [if_pos d]
        by_cases f : r ≤ b
        · have er : r = m := le.1 f bd.1.1
          have x := hue_q hs (Int.sub_nonneg_of_le f) (Int.sub_le_sub bd.2.2.2 bd.1.1)
          rw [hue_n (k := 2) (b := b - r) hs rfl]
          exact Rep.of (tz_s2 x.1 x.2.1) (at0 _ er) (at1 _ d) (atq er x.2.2)
        · have f' := Int.le_of_lt (Int.not_le.mp f)
          have eb : b = m := le.2 f' bd.2.2.1
          have x := hue_q hs (Int.sub_nonneg_of_le f') (Int.sub_le_sub bd.1.2 bd.2.2.1)
          rw [hue_m (k := 2) (b := r - b) hs (by rw [Int.neg_sub])]
          exact Rep.of (tz_s1 x.1 x.2.1) (atq eb x.2.2) (at1 _ d) (at0 _ eb)
      · have e3 : b = M := att.1.elim (fun e => absurd e c) fun e => e.elim (fun e => absurd e d) id
        have le := least3 (att.2.elim (fun e => .inr (.inr e)) fun e => e.elim (fun e => .inr (.inl e)) .inl) (hne e3)
        rw [if_neg d]
        by_cases f : g ≤ r
        · have eg : g = m := le.1 f bd.2.1.1
          have x := hue_q hs (Int.sub_nonneg_of_le f) (Int.sub_le_sub bd.1.2 bd.2.1.1)
          rw [hue_n (k := 4) (b := r - g) hs rfl]
          exact Rep.of (tz_s4 x.1 x.2.1) (atq eg x.2.2) (at0 _ eg) (at1 _ e3)
        · have f' := Int.le_of_lt (Int.not_le.mp f)
          have er : r = m := le.2 f' bd.1.1
          have x := hue_q hs (Int.sub_nonneg_of_le f') (Int.sub_le_sub bd.2.1.2 bd.1.1)
          rw [hue_m (k := 4) (b := g - r) hs (by rw [Int.neg_sub])]
          exact Rep.of (tz_s3 x.1 x.2.1) (at0 _ er) (atq er x.2.2) (at1 _ e3)
end
end
end
section
section
theorem tz_half (y : Rat) : tz (y + 3) = 1 - tz y := by
  obtain ⟨a, b⟩ := fl6 y
  generalize (y / 6).floor = l at *
  rw [tz_at (y := y) l a (by grind)]
  rcases Rat.le_total (a := y - 6 * (l : Rat)) (b := 3) with h | h
  · rw [tz_at (y := y + 3) l (by grind) (by grind)]; unfold tr; grind
  · rw [tz_at (y := y + 3) (l + 1) (by rw [Rat.intCast_add]; have : ((1 : Int) : Rat) = 1 := rfl; grind) (by rw [Rat.intCast_add]; have : ((1 : Int) : Rat) = 1 := rfl; grind)]
    rw [Rat.intCast_add]; have : ((1 : Int) : Rat) = 1 := rfl
    rw [this]; unfold tr; grind
theorem tz_mir (y : Rat) : tz (4 - y) = tz y := by
  obtain ⟨a, b⟩ := fl6 y
  generalize (y / 6).floor = l at *
  rw [tz_at (y := y) l a (by grind)]
  rcases Rat.le_total (a := y - 6 * (l : Rat)) (b := 4) with h | h
  · rw [tz_at (y := 4 - y) (-l) (by rw [Rat.intCast_neg]; grind) (by rw [Rat.intCast_neg]; grind)]; rw [Rat.intCast_neg]; unfold tr; grind
  · have e1 : ((1 : Int) : Rat) = 1 := rfl
    rw [tz_at (y := 4 - y) (-l - 1) (by rw [Rat.intCast_sub, Rat.intCast_neg]; grind) (by rw [Rat.intCast_sub, Rat.intCast_neg]; grind)]
    rw [Rat.intCast_sub, Rat.intCast_neg, e1]; unfold tr; grind
end
end
section
section
open PySem PySem.Flt PySem.Float64
/-- the colour turned by one sixth, mirrored, shifted, scaled -/
theorem Rep.turn {r g b m sp y both : Rat} (h : Rep r g b m sp y) (hb : both = 2 * m + sp) : Rep (both - g) (both - b) (both - r) m sp (y + 1) := by
  have a := tz_half (y + 0)
  have b := tz_half (y + -2)
  have c := tz_half (y + 2)
  have d := tz_add6 (y + 1 + -2) 1
  rw [i1] at d
  rw [show y + 0 + 3 = y + 1 + 2 by grind] at a
  rw [show y + -2 + 3 = y + 1 + 0 by grind] at b
  rw [show y + 2 + 3 = y + 1 + -2 + 6 * 1 by grind, d] at c
  exact ⟨by rw [a, h.g, hb]; grind, by rw [b, h.b, hb]; grind, by rw [c, h.r, hb]; grind⟩
theorem Rep.back {r g b m sp y both : Rat} (h : Rep (both - g) (both - b) (both - r) m sp y) (hb : both = 2 * m + sp) : Rep r g b m sp (y + -1) := by
  have a := tz_half (y + -1 + 2)
  have b := tz_half (y + -1 + 0)
  have c := tz_half (y + -1 + -2)
  have d := tz_add6 (y + -2) 1
  rw [i1] at d
  rw [show y + -1 + 2 + 3 = y + -2 + 6 * 1 by grind, d] at a
  rw [show y + -1 + 0 + 3 = y + 2 by grind] at b
  rw [show y + -1 + -2 + 3 = y + 0 by grind] at c
  have hr := h.r; have hg := h.g; have hbb := h.b
  exact ⟨by grind, by grind, by grind⟩
theorem Rep.mir {r g b m sp y : Rat} (h : Rep r g b m sp y) : Rep r b g m sp (-y) := by
  have a := tz_mir (y + 2)
  have b := tz_mir (-y + -2)
  have c := tz_mir (y + 0)
  have d := tz_add6 (y + -2) 1
  have e := tz_mir (-y + 0)
  have f := tz_add6 (-y + -2) 1
  rw [i1] at d f
  rw [show 4 - (y + 2) = -y + 2 by grind] at a
  rw [show 4 - (-y + 0) = y + -2 + 6 * 1 by grind, d] at e
  rw [show 4 - (y + 0) = -y + -2 + 6 * 1 by grind, f] at c
  exact ⟨by rw [a]; exact h.r, by rw [← e]; exact h.b, by rw [c]; exact h.g⟩
theorem Rep.per {r g b m sp y : Rat} (k : Int) (h : Rep r g b m sp y) : Rep r g b m sp (y + 6 * (k : Rat)) := by
  have t : ∀ c, tz (y + 6 * (k : Rat) + c) = tz (y + c) := fun c => by rw [← tz_add6 (y + c) k]; congr 1; grind
  exact ⟨by rw [t]; exact h.r, by rw [t]; exact h.g, by rw [t]; exact h.b⟩
theorem Rep.shift {r g b m sp y : Rat} (q : Rat) (h : Rep r g b m sp y) : Rep (r + q) (g + q) (b + q) (m + q) sp y := by
  have hr := h.r; have hg := h.g; have hb := h.b
  exact ⟨by grind, by grind, by grind⟩
theorem Rep.scale {r g b m sp y : Rat} (q : Rat) (h : Rep r g b m sp y) : Rep (q * r) (q * g) (q * b) (q * m) (q * sp) y := by
  have hr := h.r; have hg := h.g; have hb := h.b
  exact ⟨by rw [hr]; grind, by rw [hg]; grind, by rw [hb]; grind⟩
noncomputable abbrev RepC (c : Int × Int × Int) (m sp : Int) (y : Rat) : Prop := Rep (c.1 : Rat) (c.2.1 : Rat) (c.2.2 : Rat) (m : Rat) (sp : Rat) y
theorem repC_turnN {both m sp : Int} (hb : both = 2 * m + sp) {c : Int × Int × Int} {y : Rat} (h : RepC c m sp y) : ∀ k : Nat, RepC (turnN both k c) m sp (y + ((k : Int) : Rat))
  | 0 => by
    have : y + (((0 : Nat) : Int) : Rat) = y := by show y + ((0 : Int) : Rat) = y; rw [i0]; grind
    rw [this]; exact h
  | k + 1 => by
    have ih := repC_turnN hb h k
    have e : (both : Rat) = 2 * (m : Rat) + (sp : Rat) := by rw [hb, Rat.intCast_add, Rat.intCast_mul, i2]
    have := Rep.turn ih e
    have e2 : y + (((k + 1 : Nat) : Int) : Rat) = y + ((k : Int) : Rat) + 1 := by
      rw [show ((k + 1 : Nat) : Int) = (k : Int) + 1 from rfl, Rat.intCast_add, i1]; grind
    rw [e2]
    show Rep ((both - (turnN both k c).2.1 : Int) : Rat) ((both - (turnN both k c).2.2 : Int) : Rat) ((both - (turnN both k c).1 : Int) : Rat) m sp _
    rw [Rat.intCast_sub, Rat.intCast_sub, Rat.intCast_sub]
    exact this
theorem repC_unturn {both m sp : Int} (hb : both = 2 * m + sp) {c : Int × Int × Int} : ∀ (k : Nat) {y : Rat}, RepC (turnN both k c) m sp y → RepC c m sp (y + -((k : Int) : Rat))
  | 0, y, h => by
    have : y + -(((0 : Nat) : Int) : Rat) = y := by show y + -((0 : Int) : Rat) = y; rw [i0]; grind
    rw [this]; exact h
  | k + 1, y, h => by
    have e : (both : Rat) = 2 * (m : Rat) + (sp : Rat) := by rw [hb, Rat.intCast_add, Rat.intCast_mul, i2]
    have h1 : Rep ((both - (turnN both k c).2.1 : Int) : Rat) ((both - (turnN both k c).2.2 : Int) : Rat) ((both - (turnN both k c).1 : Int) : Rat) m sp y := h
    rw [Rat.intCast_sub, Rat.intCast_sub, Rat.intCast_sub] at h1
    have := repC_unturn hb k (Rep.back h1 e)
    have e2 : y + -(((k + 1 : Nat) : Int) : Rat) = y + -1 + -((k : Int) : Rat) := by
      rw [show ((k + 1 : Nat) : Int) = (k : Int) + 1 from rfl, Rat.intCast_add, i1]; grind
    rw [e2]; exact this
/-- the greatest and the least of a turned colour -/
theorem turnN_mm {both M m : Int} (hb : both = M + m) {c : Int × Int × Int} (hM : max (max c.1 c.2.1) c.2.2 = M) (hm : min (min c.1 c.2.1) c.2.2 = m) : ∀ k : Nat, max (max (turnN both k c).1 (turnN both k c).2.1) (turnN both k c).2.2 = M ∧ min (min (turnN both k c).1 (turnN both k c).2.1) (turnN both k c).2.2 = m
  | 0 => ⟨hM, hm⟩
  | k + 1 => by
    obtain ⟨a, b⟩ := turnN_mm hb hM hm k
    have h := mm_turn (B := both) a b
    rw [show both - m = M by omega, show both - M = m by omega] at h
    exact h
end
end
section
section
open PySem PySem.Flt PySem.Float64
/-- a component of hsv_to_rgb, from near arguments -/
theorem hsv_inv {x : UInt64} {v s h c V S Y ev es eh a d e0 e : Rat} (hx : Ap x (v * (1 - s * (1 - tz (6 * h + c)))) e0)
    (s0 : 0 ≤ s) (s1 : s ≤ 2) (V0 : 0 ≤ V) (S0 : 0 ≤ S)
    (v1 : -ev ≤ v - V) (v2 : v - V ≤ ev) (s3 : -es ≤ s - S) (s4 : s - S ≤ es) (h1 : -eh ≤ h - Y / 6) (h2 : h - Y / 6 ≤ eh)
    (ha : V * es ≤ a) (hd : V * S * (6 * eh) ≤ d) (he : e0 + ev + a + d ≤ e) : Ap x (V * (1 - S * (1 - tz (Y + c)))) e := by
  have z1 := tz_lip (x := 6 * h + c) (y := Y + c) (e := 6 * eh) (by grind) (by grind)
  have z2 := tz_lip (y := 6 * h + c) (x := Y + c) (e := 6 * eh) (by grind) (by grind)
  have t1 := tz_b (6 * h + c)
  have t2 := tz_b (Y + c)
  have l1 := hx.lo; have l2 := hx.hi
  generalize tz (6 * h + c) = t at *
  generalize tz (Y + c) = T at *
  have m0 := rabs_mul (a := s) (b := 1 - t) (A := 2) (B := 1) (by grind) (by grind) (by grind) (by grind)
  have m0' := Rat.mul_nonneg s0 (show 0 ≤ 1 - t by grind)
  have m1 := rabs_mul (a := v - V) (b := 1 - s * (1 - t)) (A := ev) (B := 1) (by grind) (by grind) (by grind) (by grind)
  have m2 := rabs_mul (a := s - S) (b := 1 - t) (A := es) (B := 1) (by grind) (by grind) (by grind) (by grind)
  have m3 := rabs_mul (a := V) (b := (s - S) * (1 - t)) (A := V) (B := es) (by grind) (by grind) (by grind) (by grind)
  have vs := Rat.mul_nonneg V0 S0
  have m4 := rabs_mul (a := V * S) (b := T - t) (A := V * S) (B := 6 * eh) (by grind) (by grind) (by grind) (by grind)
  have eq : v * (1 - s * (1 - t)) = V * (1 - S * (1 - T)) + (v - V) * (1 - s * (1 - t)) - V * ((s - S) * (1 - t)) - V * S * (T - t) := by grind
  exact ⟨hx.fin, by grind, by grind⟩
/-- a component of hls_to_rgb, from near arguments -/
theorem hls_inv {x : UInt64} {l s h c L S Y el es eh a d e0 e : Rat} (hx : Ap x (l + s * mn1 l * (2 * tz (6 * h + c) - 1)) e0)
    (l0 : 0 ≤ l) (l1 : l ≤ 1) (L0 : 0 ≤ L) (L1 : L ≤ 1) (s0 : 0 ≤ s) (s1 : s ≤ 2) (S0 : 0 ≤ S)
    (v1 : -el ≤ l - L) (v2 : l - L ≤ el) (s3 : -es ≤ s - S) (s4 : s - S ≤ es) (h1 : -eh ≤ h - Y / 6) (h2 : h - Y / 6 ≤ eh)
    (ha : mn1 L * es ≤ a) (hd : S * mn1 L * (6 * eh) ≤ d) (he : e0 + 3 * el + a + 2 * d ≤ e) : Ap x (L + S * mn1 L * (2 * tz (Y + c) - 1)) e := by
  have z1 := tz_lip (x := 6 * h + c) (y := Y + c) (e := 6 * eh) (by grind) (by grind)
  have z2 := tz_lip (y := 6 * h + c) (x := Y + c) (e := 6 * eh) (by grind) (by grind)
  have t1 := tz_b (6 * h + c)
  have t2 := tz_b (Y + c)
  have q1 := hx.lo; have q2 := hx.hi
  have n1 := mn1_lip (a := l) (b := L) (e := el) (by grind) (by grind)
  have n2 := mn1_lip (b := l) (a := L) (e := el) (by grind) (by grind)
  have n3 := mn1_b l0 l1
  have n4 := mn1_b L0 L1
  generalize tz (6 * h + c) = t at *
  generalize tz (Y + c) = T at *
  generalize mn1 l = p at *
  generalize mn1 L = P at *
  have m1 := rabs_mul (a := s) (b := p - P) (A := 2) (B := el) (by grind) (by grind) (by grind) (by grind)
  have m2 := rabs_mul (a := P) (b := s - S) (A := P) (B := es) (by grind) (by grind) (by grind) (by grind)
  have e1 : s * p - S * P = s * (p - P) + P * (s - S) := by grind
  have m3 := rabs_mul (a := s * p - S * P) (b := 2 * t - 1) (A := 2 * el + a) (B := 1) (by grind) (by grind) (by grind) (by grind)
  have sp := Rat.mul_nonneg S0 n4.1
  have m4 := rabs_mul (a := S * P) (b := t - T) (A := S * P) (B := 6 * eh) (by grind) (by grind) (by grind) (by grind)
  have eq : l + s * p * (2 * t - 1) = L + S * P * (2 * T - 1) + (l - L) + (s * p - S * P) * (2 * t - 1) + 2 * (S * P * (t - T)) := by grind
  exact ⟨hx.fin, by grind, by grind⟩
theorem Ap.sides {x : UInt64} {X e : Rat} (h : Ap x X e) : -e ≤ fv x - X ∧ fv x - X ≤ e := ⟨by have := h.lo; grind, by have := h.hi; grind⟩
theorem canc2 {u t s : Rat} (k : Rat) (ht : 0 < t) (hs : 0 < s) : s / t * (k * (u * t / s)) = k * u := by grind
section
variable {r g b top M m : Int} (C : Col r g b top M m)
include C
/-- V * (the error of S) -/
theorem Col.ve : (M : Rat) / top * (6 * (uu * top / M)) ≤ 6 * uu := by
  have tp := castR_pos C.d.p
  have u0 := uu0
  rcases Int.lt_or_le 0 M with h | h
  · rw [canc2 6 tp (castR_pos h)]; exact Rat.le_refl
  · have : M = 0 := by have := C.M0; omega
    rw [this, i0]; grind
theorem Col.vs : (M : Rat) / top * (((M - m : Int) : Rat) / M) = ((M - m : Int) : Rat) / top := by
  have tp := castR_pos C.d.p
  rcases Int.lt_or_le 0 M with h | h
  · have hp := castR_pos h
    grind
  · have h1 : M = 0 := by have := C.M0; omega
    have h2 : M - m = 0 := by have := C.M0; omega
    rw [h2, h1, i0]; grind
theorem Col.se (k : Rat) (hk : 0 ≤ k) : ((M - m : Int) : Rat) / top * (k * (uu * top / ((M - m : Int) : Rat))) ≤ k * uu := by
  have tp := castR_pos C.d.p
  have u0 := uu0
  have := Rat.mul_nonneg hk u0
  by_cases h : M - m = 0
  · rw [h, i0]; grind
  · rw [canc2 k tp (castR_pos (show 0 < M - m by have := C.M0; omega))]; exact Rat.le_refl
theorem Col.mdv : mn1 (((M + m : Int) : Rat) / (2 * top)) = ((Min.min (M + m) (2 * top - (M + m)) : Int) : Rat) / (2 * top) := by
  have tp := castR_pos C.d.p
  have hM := C.M0
  unfold mn1
  rcases Int.lt_or_le top (M + m) with h | h
  · rw [show Min.min (M + m) (2 * top - (M + m)) = 2 * top - (M + m) by omega]
    have h' : ((top + 1 : Int) : Rat) ≤ ((M + m : Int) : Rat) := castR_le (by omega)
    rw [Rat.intCast_add, i1] at h'
    have : ¬ ((M + m : Int) : Rat) / (2 * top) ≤ 1 / 2 := by
      intro hh
      have h3 := Rat.mul_le_mul_of_nonneg_right hh (show 0 ≤ 2 * (top : Rat) by grind)
      have e : ((M + m : Int) : Rat) / (2 * top) * (2 * top) = ((M + m : Int) : Rat) := by
        generalize ((M + m : Int) : Rat) = l at *
        grind
      rw [e] at h3
      grind
    rw [if_neg this, Rat.intCast_sub (2 * top), Rat.intCast_mul, i2]
    generalize ((M + m : Int) : Rat) = l at *
    grind
  · rw [show Min.min (M + m) (2 * top - (M + m)) = M + m by omega]
    have h' := castR_le h
    have : ((M + m : Int) : Rat) / (2 * top) ≤ 1 / 2 := div_le_of (by grind) (by grind)
    rw [if_pos this]
theorem Col.me (k : Rat) (hk : 0 ≤ k) : ((Min.min (M + m) (2 * top - (M + m)) : Int) : Rat) / (2 * top) * (k * (uu * top / ((Min.min (M + m) (2 * top - (M + m)) : Int) : Rat))) ≤ k * uu := by
  have tp := castR_pos C.d.p
  have u0 := uu0
  have hku := Rat.mul_nonneg hk u0
  have hM := C.M0
  generalize hmd : Min.min (M + m) (2 * top - (M + m)) = md
  by_cases h : md = 0
  · rw [h, i0]; grind
  · have hp := castR_pos (show 0 < md by omega)
    have e := canc2 (u := uu) k tp hp
    have e2 : (md : Rat) / (2 * top) = md / top / 2 := by grind
    rw [e2]
    generalize uu * top / (md : Rat) = κ at *
    grind
theorem Col.ms : ((M - m : Int) : Rat) / ((Min.min (M + m) (2 * top - (M + m)) : Int) : Rat) * (((Min.min (M + m) (2 * top - (M + m)) : Int) : Rat) / (2 * top)) = ((M - m : Int) : Rat) / (2 * top) := by
  have tp := castR_pos C.d.p
  have hM := C.M0
  generalize hmd : Min.min (M + m) (2 * top - (M + m)) = md
  by_cases h : md = 0
  · have h2 : M - m = 0 := by omega
    rw [h2, h, i0]; grind
  · have hp := castR_pos (show 0 < md by omega)
    generalize ((M - m : Int) : Rat) = sp at *
    grind
end
end
end
section
section
open PySem PySem.Flt PySem.Float64
section
variable {r g b top M m : Int} (C : Col r g b top M m)
include C
/-- the way back by hsv: value, saturation and hue in any near form -/
theorem Col.hsv_ideal {Y c x : Rat} (hx : x = (m : Rat) + ((M - m : Int) : Rat) * tz (Y + c)) : (M : Rat) / top * (1 - ((M - m : Int) : Rat) / M * (1 - tz (Y + c))) = x / top := by
  have e := C.vs
  have tp := castR_pos C.d.p
  have e1 : (M : Rat) / top * (1 - ((M - m : Int) : Rat) / M * (1 - tz (Y + c))) = M / top - ((M : Rat) / top * (((M - m : Int) : Rat) / M)) * (1 - tz (Y + c)) := by grind
  rw [e1, e, hx]
  generalize tz (Y + c) = T at *
  rw [Rat.intCast_sub]; grind
theorem Col.hls_ideal {Y c x : Rat} (hx : x = (m : Rat) + ((M - m : Int) : Rat) * tz (Y + c)) : ((M + m : Int) : Rat) / (2 * top) + ((M - m : Int) : Rat) / ((Min.min (M + m) (2 * top - (M + m)) : Int) : Rat) * mn1 (((M + m : Int) : Rat) / (2 * top)) * (2 * tz (Y + c) - 1) = x / top := by
  have tp := castR_pos C.d.p
  rw [C.mdv, C.ms, hx]
  generalize tz (Y + c) = T at *
  rw [Rat.intCast_sub, Rat.intCast_add]; grind
end
end
end
section
section
open PySem PySem.Flt PySem.Float64
section
variable {r g b top M m : Int} (C : Col r g b top M m)
include C
theorem Col.z1 (h : M - m ≠ 0) : ¬ isZero (sh M top) = true ∧ ¬ isZero (rg (sh r top) (sh g top) (sh b top)) = true := by
  have hM := C.M0
  have tp := castR_pos C.d.p
  have t2 := C.d.r.2
  have us := uus
  obtain ⟨k1, k2⟩ := C.kap h
  have hr := C.rg_ap
  have hl := hr.lo
  have h1 : 1 / (top : Rat) ≤ ((M - m : Int) : Rat) / top := div_le_div tp k1
  have h2 : 1 / 16384 ≤ 1 / (top : Rat) := le_div_of tp (by grind)
  have hb := C.rg_b
  refine ⟨fun e => ?_, fun e => ?_⟩
  · have := (isZero_iff C.sM.1.fin).mp e; grind
  · have := (isZero_iff hr.fin).mp e; grind
theorem Col.z2 (h : M - m ≠ 0) : (fle (light (sh r top) (sh g top) (sh b top)) cHalf = true → ¬ isZero (add (sh M top) (sh m top)) = true) ∧ (fle (light (sh r top) (sh g top) (sh b top)) cHalf = false → ¬ isZero (sub (sub c2 (sh M top)) (sh m top)) = true) := by
  have hM := C.M0
  have tp := castR_pos C.d.p
  have t2 := C.d.r.2
  have us := uus
  have u0 := uu0
  obtain ⟨k1, k2⟩ := C.kap h
  have h2 : 1 / 16384 ≤ 1 / (top : Rat) := le_div_of tp (by grind)
  refine ⟨fun _ e => ?_, fun _ e => ?_⟩
  · obtain ⟨s, _, _⟩ := C.sum_ap
    have := (isZero_iff s.fin).mp e
    have hs := castR_le (show 1 ≤ M + m by omega)
    have h1 : 1 / (top : Rat) ≤ ((M + m : Int) : Rat) / top := div_le_div tp hs
    have := s.lo
    grind
  · obtain ⟨a, a0, a1⟩ := C.sM
    obtain ⟨c, c0, c1⟩ := C.sm
    obtain ⟨f1, f2, f3, f4⟩ := C.fr
    have w1 := ap_sub (g := 3 / 2 * uu) (ap_self fin_c2) a (by rw [fv_c2]; grind) (by rw [fv_c2]; grind) (by grind) (by grind)
    rw [fv_c2] at w1
    have w2 := ap_sub (g := 3 * uu) w1 c (by grind) (by grind) (by grind) (by grind)
    have := (isZero_iff w2.fin).mp e
    have hs := castR_le (show M + m + 1 ≤ 2 * top by omega)
    rw [Rat.intCast_add, Rat.intCast_mul, Rat.intCast_add, i1, i2] at hs
    have h1 : 1 / (top : Rat) ≤ (2 * (top : Rat) - M - m) / top := div_le_div tp (by grind)
    have e : (2 * (top : Rat) - M - m) / top = 2 - (M : Rat) / top - m / top := by grind
    have := w2.lo
    grind
end
end
end
section
section
open PySem PySem.Flt PySem.Float64
section
variable {v s : UInt64} (hv : Fin v) (hs : Fin s) (v0 : 0 ≤ fv v) (v1 : fv v ≤ 1) (s0 : 0 ≤ fv s) (s1 : fv s ≤ 101 / 100)
include hv hs v0 v1 s0 s1
theorem vsw2 {w : UInt64} (hw : Fin w) (w0 : 0 ≤ fv w) (w1 : fv w ≤ 1) : Ap (mul v (sub c1 (mul s w))) (fv v * (1 - fv s * fv w)) (3 * uu + uu / 16) := by
  have u0 := uu0
  have us : uu ≤ 1 / 1000000 := by decide +kernel
  have m := rabs_mul (a := fv s) (b := fv w) (A := 101 / 100) (B := 1) (by grind) (by grind) (by grind) (by grind)
  have m0 := Rat.mul_nonneg s0 w0
  have a := ap_mul (g := uu) (101 / 100) 1 (ap_self hs) (ap_self hw) (by grind) (by grind) (by grind) (by grind) (by grind) (by grind)
  have b := ap_sub (g := 2 * uu) (ap_self fin_c1) a (by rw [fv_c1]; grind) (by rw [fv_c1]; grind) (by grind) (by grind)
  rw [fv_c1] at b
  exact ap_mul (1) (101 / 100) (ap_self hv) b (by grind) (by grind) (by grind) (by grind) (by grind) (by grind)
theorem vs12 : Ap (mul v (sub c1 s)) (fv v * (1 - fv s * 1)) (3 * uu + uu / 16) := by
  have u0 := uu0
  have us : uu ≤ 1 / 1000000 := by decide +kernel
  have b := ap_sub (g := uu) (ap_self fin_c1) (ap_self hs) (by rw [fv_c1]; grind) (by rw [fv_c1]; grind) (by grind) (by grind)
  rw [fv_c1] at b
  rw [show fv s * 1 = fv s by grind]
  exact ap_mul (1) (101 / 100) (ap_self hv) b (by grind) (by grind) (by grind) (by grind) (by grind) (by grind)
end
theorem comp2 {v s w T y : Rat} {r : UInt64} (v0 : 0 ≤ v) (v1 : v ≤ 1) (s0 : 0 ≤ s) (s1 : s ≤ 101 / 100) (hr : Ap r (v * (1 - s * w)) (3 * uu + uu / 16)) (h1 : -uu ≤ (1 - T) - w) (h2 : (1 - T) - w ≤ uu) (H : -(3 * uu) ≤ tz y - T ∧ tz y - T ≤ 3 * uu) :
    Ap r (v * (1 - s * (1 - tz y))) (8 * uu) := by
  have u0 := uu0
  have m1 := rabs_mul (a := v) (b := s) (A := 1) (B := 101 / 100) (by grind) (by grind) (by grind) (by grind)
  have m2 := rabs_mul (a := v * s) (b := (1 - tz y) - w) (A := 101 / 100) (B := 4 * uu) (by grind) (by grind) (by grind) (by grind)
  have := hr.lo; have := hr.hi
  exact ⟨hr.fin, by grind, by grind⟩
theorem hsv_ap2 {h s v : UInt64} (hh : Fin h) (hs : Fin s) (hv : Fin v) (h0 : 0 ≤ fv h) (h1 : fv h ≤ 5) (s0 : 0 ≤ fv s) (s1 : fv s ≤ 101 / 100) (v0 : 0 ≤ fv v) (v1 : fv v ≤ 1) :
    Ap (hsvR h s v) (fv v * (1 - fv s * (1 - tz (6 * fv h + 2)))) (8 * uu) ∧ Ap (hsvG h s v) (fv v * (1 - fv s * (1 - tz (6 * fv h + 0)))) (8 * uu) ∧ Ap (hsvB h s v) (fv v * (1 - fv s * (1 - tz (6 * fv h + -2)))) (8 * uu) := by
  have u0 := uu0
  by_cases hz : feq s 0 = true
  · have es : fv s = 0 := by rw [← fv_z]; exact (feq_iff hs fin_z).mp hz
    have e1 : hsvR h s v = v := by unfold hsvR; rw [if_pos hz]
    have e2 : hsvG h s v = v := by unfold hsvG; rw [if_pos hz]
    have e3 : hsvB h s v = v := by unfold hsvB; rw [if_pos hz]
    rw [e1, e2, e3, es]
    refine ⟨⟨hv, ?_, ?_⟩, ⟨hv, ?_, ?_⟩, ⟨hv, ?_, ?_⟩⟩ <;> grind
  · obtain ⟨_, _, ff, f0, f1, _, c1, c2⟩ := sec_spec hh h0 h1
    obtain ⟨g, g0, g1⟩ := unit_sub ff f0 f1
    have g2 := g.lo
    have g3 := g.hi
    have hpp : Ap (vP s v) (fv v * (1 - fv s * 1)) (3 * uu + uu / 16) := vs12 hv hs v0 v1 s0 s1
    have hqq : Ap (vQ h s v) (fv v * (1 - fv s * fv (frc h))) (3 * uu + uu / 16) := vsw2 hv hs v0 v1 s0 s1 ff f0 f1
    have htt : Ap (vT h s v) (fv v * (1 - fv s * fv (sub Mine.c1 (frc h)))) (3 * uu + uu / 16) := vsw2 hv hs v0 v1 s0 s1 g.fin g0 g1
    have hvv : Ap v (fv v * (1 - fv s * 0)) (3 * uu + uu / 16) := ⟨hv, by grind, by grind⟩
    have z1 : -uu ≤ (1 - fv (frc h)) - fv (sub Mine.c1 (frc h)) := by grind
    have z2 : (1 - fv (frc h)) - fv (sub Mine.c1 (frc h)) ≤ uu := by grind
    have y0 : ∀ x : Rat, -uu ≤ (1 - (1 - x)) - x ∧ (1 - (1 - x)) - x ≤ uu := fun x => by constructor <;> grind
    have six := fmod6 (sec h)
    have hdm : sec h = 6 * (sec h).fdiv 6 + (sec h).fmod 6 := (Int.mul_fdiv_add_fmod (sec h) 6).symm
    generalize (sec h).fdiv 6 = k at *
    rcases six with e | e | e | e | e | e <;> rw [e] at hdm
    · rw [show hsvR h s v = v from by unfold hsvR; rw [if_neg hz, if_pos e], show hsvG h s v = vT h s v from by unfold hsvG; rw [if_neg hz, if_pos e], show hsvB h s v = vP s v from by unfold hsvB; rw [if_neg hz, if_pos e]]
      exact ⟨comp2 (T := 1) v0 v1 s0 s1 hvv (by grind) (by grind) (tz_sec (c := 2) (n := 2) (q := 0) k f0 f1 c1 c2 hdm (by decide) (by decide) (by decide) (tr_s2 f0 f1)),
        comp2 (T := fv (frc h)) v0 v1 s0 s1 htt z1 z2 (tz_sec (c := 0) (n := 0) (q := 0) k f0 f1 c1 c2 hdm (by decide) (by decide) (by decide) (tr_s0 f0 f1)),
        comp2 (T := 0) v0 v1 s0 s1 hpp (by grind) (by grind) (tz_sec (c := -2) (n := 4) (q := -1) k f0 f1 c1 c2 hdm (by decide) (by decide) (by decide) (tr_s4 f0 f1))⟩
    · rw [show hsvR h s v = vQ h s v from by unfold hsvR; rw [if_neg hz, if_neg (by rw [e]; decide), if_pos e], show hsvG h s v = v from by unfold hsvG; rw [if_neg hz, if_neg (by rw [e]; decide), if_pos e], show hsvB h s v = vP s v from by unfold hsvB; rw [if_neg hz, if_neg (by rw [e]; decide), if_pos e]]
      exact ⟨comp2 (T := 1 - fv (frc h)) v0 v1 s0 s1 hqq (y0 _).1 (y0 _).2 (tz_sec (c := 2) (n := 3) (q := 0) k f0 f1 c1 c2 hdm (by decide) (by decide) (by decide) (tr_s3 f0 f1)),
        comp2 (T := 1) v0 v1 s0 s1 hvv (by grind) (by grind) (tz_sec (c := 0) (n := 1) (q := 0) k f0 f1 c1 c2 hdm (by decide) (by decide) (by decide) (tr_s1 f0 f1)),
        comp2 (T := 0) v0 v1 s0 s1 hpp (by grind) (by grind) (tz_sec (c := -2) (n := 5) (q := -1) k f0 f1 c1 c2 hdm (by decide) (by decide) (by decide) (tr_s5 f0 f1))⟩
    · rw [show hsvR h s v = vP s v from by unfold hsvR; rw [if_neg hz, if_neg (by rw [e]; decide), if_neg (by rw [e]; decide), if_pos e], show hsvG h s v = v from by unfold hsvG; rw [if_neg hz, if_neg (by rw [e]; decide), if_neg (by rw [e]; decide), if_pos e], show hsvB h s v = vT h s v from by unfold hsvB; rw [if_neg hz, if_neg (by rw [e]; decide), if_neg (by rw [e]; decide), if_pos e]]
      exact ⟨comp2 (T := 0) v0 v1 s0 s1 hpp (by grind) (by grind) (tz_sec (c := 2) (n := 4) (q := 0) k f0 f1 c1 c2 hdm (by decide) (by decide) (by decide) (tr_s4 f0 f1)),
        comp2 (T := 1) v0 v1 s0 s1 hvv (by grind) (by grind) (tz_sec (c := 0) (n := 2) (q := 0) k f0 f1 c1 c2 hdm (by decide) (by decide) (by decide) (tr_s2 f0 f1)),
        comp2 (T := fv (frc h)) v0 v1 s0 s1 htt z1 z2 (tz_sec (c := -2) (n := 0) (q := 0) k f0 f1 c1 c2 hdm (by decide) (by decide) (by decide) (tr_s0 f0 f1))⟩
    · rw [show hsvR h s v = vP s v from by unfold hsvR; rw [if_neg hz, if_neg (by rw [e]; decide), if_neg (by rw [e]; decide), if_neg (by rw [e]; decide), if_pos e], show hsvG h s v = vQ h s v from by unfold hsvG; rw [if_neg hz, if_neg (by rw [e]; decide), if_neg (by rw [e]; decide), if_neg (by rw [e]; decide), if_pos e], show hsvB h s v = v from by unfold hsvB; rw [if_neg hz, if_neg (by rw [e]; decide), if_neg (by rw [e]; decide), if_neg (by rw [e]; decide), if_pos e]]
      exact ⟨comp2 (T := 0) v0 v1 s0 s1 hpp (by grind) (by grind) (tz_sec (c := 2) (n := 5) (q := 0) k f0 f1 c1 c2 hdm (by decide) (by decide) (by decide) (tr_s5 f0 f1)),
        comp2 (T := 1 - fv (frc h)) v0 v1 s0 s1 hqq (y0 _).1 (y0 _).2 (tz_sec (c := 0) (n := 3) (q := 0) k f0 f1 c1 c2 hdm (by decide) (by decide) (by decide) (tr_s3 f0 f1)),
        comp2 (T := 1) v0 v1 s0 s1 hvv (by grind) (by grind) (tz_sec (c := -2) (n := 1) (q := 0) k f0 f1 c1 c2 hdm (by decide) (by decide) (by decide) (tr_s1 f0 f1))⟩
    · rw [show hsvR h s v = vT h s v from by unfold hsvR; rw [if_neg hz, if_neg (by rw [e]; decide), if_neg (by rw [e]; decide), if_neg (by rw [e]; decide), if_neg (by rw [e]; decide), if_pos e], show hsvG h s v = vP s v from by unfold hsvG; rw [if_neg hz, if_neg (by rw [e]; decide), if_neg (by rw [e]; decide), if_neg (by rw [e]; decide), if_neg (by rw [e]; decide), if_pos e], show hsvB h s v = v from by unfold hsvB; rw [if_neg hz, if_neg (by rw [e]; decide), if_neg (by rw [e]; decide), if_neg (by rw [e]; decide), if_neg (by rw [e]; decide), if_pos e]]
      exact ⟨comp2 (T := fv (frc h)) v0 v1 s0 s1 htt z1 z2 (tz_sec (c := 2) (n := 0) (q := 1) k f0 f1 c1 c2 hdm (by decide) (by decide) (by decide) (tr_s0 f0 f1)),
        comp2 (T := 0) v0 v1 s0 s1 hpp (by grind) (by grind) (tz_sec (c := 0) (n := 4) (q := 0) k f0 f1 c1 c2 hdm (by decide) (by decide) (by decide) (tr_s4 f0 f1)),
        comp2 (T := 1) v0 v1 s0 s1 hvv (by grind) (by grind) (tz_sec (c := -2) (n := 2) (q := 0) k f0 f1 c1 c2 hdm (by decide) (by decide) (by decide) (tr_s2 f0 f1))⟩
    · rw [show hsvR h s v = v from by unfold hsvR; rw [if_neg hz, if_neg (by rw [e]; decide), if_neg (by rw [e]; decide), if_neg (by rw [e]; decide), if_neg (by rw [e]; decide), if_neg (by rw [e]; decide)], show hsvG h s v = vP s v from by unfold hsvG; rw [if_neg hz, if_neg (by rw [e]; decide), if_neg (by rw [e]; decide), if_neg (by rw [e]; decide), if_neg (by rw [e]; decide), if_neg (by rw [e]; decide)], show hsvB h s v = vQ h s v from by unfold hsvB; rw [if_neg hz, if_neg (by rw [e]; decide), if_neg (by rw [e]; decide), if_neg (by rw [e]; decide), if_neg (by rw [e]; decide), if_neg (by rw [e]; decide)]]
      exact ⟨comp2 (T := 1) v0 v1 s0 s1 hvv (by grind) (by grind) (tz_sec (c := 2) (n := 1) (q := 1) k f0 f1 c1 c2 hdm (by decide) (by decide) (by decide) (tr_s1 f0 f1)),
        comp2 (T := 0) v0 v1 s0 s1 hpp (by grind) (by grind) (tz_sec (c := 0) (n := 5) (q := 0) k f0 f1 c1 c2 hdm (by decide) (by decide) (by decide) (tr_s5 f0 f1)),
        comp2 (T := 1 - fv (frc h)) v0 v1 s0 s1 hqq (y0 _).1 (y0 _).2 (tz_sec (c := -2) (n := 3) (q := 0) k f0 f1 c1 c2 hdm (by decide) (by decide) (by decide) (tr_s3 f0 f1))⟩
end
end
section
section
open PySem PySem.Flt PySem.Float64
theorem is_of2 {x : UInt64} {P W : Int} {g : Rat} (hW : Dep W) (p0 : 0 ≤ P) (p1 : P ≤ W) (h : Ap x ((P : Rat) / W) g) (hg : g ≤ 1000 * uu) : Is x P W := by
  have wp := castR_pos hW.p
  have wr := hW.r
  have q1 := hW.q
  obtain ⟨wf, wv⟩ := ofInt_exact (i := W) (by have := hW.p; omega)
  obtain ⟨tf, tv⟩ := ofInt_exact (i := 1048576) (by decide)
  have tc : (((1048576 : Int)) : Rat) = 1048576 := rfl
  have pr0 := castR_nn p0
  have pr1 : (P : Rat) ≤ 16384 := Rat.le_trans (castR_le p1) wr.2
  have gw : g * (W : Rat) ≤ 1 / 60000000 := by
    have a := Rat.mul_le_mul_of_nonneg_right hg (Rat.le_of_lt wp)
    have b := Rat.mul_le_mul_of_nonneg_left wr.2 (show 0 ≤ 1000 * uu by decide +kernel)
    exact Rat.le_trans a (Rat.le_trans b (by decide +kernel))
  have e : (P : Rat) / W * W = P := Rat.div_mul_cancel (Rat.ne_of_gt wp)
  have a1 := Rat.mul_le_mul_of_nonneg_right h.lo (Rat.le_of_lt wp)
  have a2 := Rat.mul_le_mul_of_nonneg_right h.hi (Rat.le_of_lt wp)
  rw [Rat.sub_eq_add_neg, Rat.add_mul, Rat.neg_mul, e] at a1
  rw [Rat.add_mul, e] at a2
  have f1 := h.fin
  clear h e hg wr wp
  generalize hq : fv x * (W : Rat) = q at a1 a2
  generalize g * (W : Rat) = γ at a1 a2 gw
  have r0 := mul_rnd f1 wf (by rw [wv, hq]; exact big_of (by grind) (by grind))
  rw [wv, hq] at r0
  have r1 := rnd_apk 15 32768 (1 / 1000000000) r0 (by decide +kernel) (by grind) (by grind) (by decide +kernel)
  have y1 : (P : Rat) - 1 / 50000000 ≤ fv (mul x (ofInt W)) := by have := r1.lo; grind
  have y2 : fv (mul x (ofInt W)) ≤ (P : Rat) + 1 / 50000000 := by have := r1.hi; grind
  have r2 := mul_rnd r1.fin tf (by rw [tv, tc]; exact big_of (by grind) (by grind))
  rw [tv, tc] at r2
  have r3 := rnd_apk 36 68719476736 (1 / 100000) r2 (by decide +kernel) (by grind) (by grind) (by decide +kernel)
  have hap : Ap (mul (mul x (ofInt W)) (ofInt 1048576)) ((P * 1048576 : Int) : Rat) (2 / 5) := by
    rw [Rat.intCast_mul, tc]
    exact ⟨r3.fin, by have := r3.lo; grind, by have := r3.hi; grind⟩
  refine ⟨Nat.lt_of_le_of_lt (show P.natAbs ≤ 16384 by omega) (by decide), hW.p, by omega, r3.fin.finite, ?_⟩
  unfold isF
  rw [round_ap hap (by decide +kernel)]
  simp
theorem sh_is2 {x : UInt64} {a W : Int} {g : Rat} (hT : Dep W) (a0 : 0 ≤ a) (a1 : a ≤ W) (h : Ap x ((a : Rat) / W) g) (_ : 0 ≤ g) (hg : g ≤ 1000 * uu) : Is x a W := is_of2 hT a0 a1 h hg
section
variable {x y z W M m : Int} (C : Col x y z W M m) {Y : Rat} (R : RepC (x, y, z) m (M - m) Y)
include C R
/-- the colour that hsv_to_rgb gives back for near arguments -/
theorem hsv_out {h s v : UInt64} {ev es eh : Rat} (h0 : 0 ≤ fv h) (h1 : fv h ≤ 5) (s0 : 0 ≤ fv s) (s1 : fv s ≤ 101 / 100) (v0 : 0 ≤ fv v) (v1 : fv v ≤ 1)
    (va : Ap v ((M : Rat) / W) ev) (sa : Ap s (((M - m : Int) : Rat) / M) es) (ha : Ap h (Y / 6) eh) (hev : ev ≤ 10 * uu) (hes : (M : Rat) / W * es ≤ 100 * uu) (heh : ((M - m : Int) : Rat) / W * (6 * eh) ≤ 600 * uu) :
    Is (hsvR h s v) x W ∧ Is (hsvG h s v) y W ∧ Is (hsvB h s v) z W := by
  have u0 := uu0
  have tp := castR_pos C.d.p
  obtain ⟨f1, f2, f3, f4⟩ := C.fr
  have hM := C.M0
  obtain ⟨pr, pg, pb⟩ := hsv_ap2 ha.fin sa.fin va.fin h0 h1 s0 s1 v0 v1
  have S0 : 0 ≤ ((M - m : Int) : Rat) / M := by
    rcases Int.lt_or_le 0 M with h | h
    · exact le_div_of (castR_pos h) (by have := castR_nn (show 0 ≤ M - m by omega); grind)
    · have : M - m = 0 := by omega
      rw [this, i0]; grind
  have e2 := C.vs
  have key : ∀ {q : UInt64} {c : Rat} {X : Int}, 0 ≤ X → X ≤ W → Ap q (fv v * (1 - fv s * (1 - tz (6 * fv h + c)))) (8 * uu) → (X : Rat) = (m : Rat) + ((M - m : Int) : Rat) * tz (Y + c) → Is q X W := fun {q c X} X0 X1 hx hX => by
    refine sh_is2 (g := 800 * uu) C.d X0 X1 ?_ (by grind) (by grind)
    rw [← C.hsv_ideal hX]
    exact hsv_inv hx s0 (by grind) f1 S0 va.sides.1 va.sides.2 sa.sides.1 sa.sides.2 ha.sides.1 ha.sides.2 hes (by rw [e2]; exact heh) (by grind)
  exact ⟨key C.r0 C.r1 pr R.r, key C.g0 C.g1 pg R.g, key C.b0 C.b1 pb R.b⟩
/-- and hls_to_rgb -/
theorem hls_out {h l s : UInt64} {el es eh : Rat} (h0 : -5 ≤ fv h) (h1 : fv h ≤ 5) (s0 : 0 ≤ fv s) (s1 : fv s ≤ 101 / 100) (l0 : 0 ≤ fv l) (l1 : fv l ≤ 1)
    (la : Ap l (((M + m : Int) : Rat) / (2 * W)) el) (sa : Ap s (((M - m : Int) : Rat) / ((Min.min (M + m) (2 * W - (M + m)) : Int) : Rat)) es) (ha : Ap h (Y / 6) eh) (hel : el ≤ 10 * uu)
    (hes : ((Min.min (M + m) (2 * W - (M + m)) : Int) : Rat) / (2 * W) * es ≤ 100 * uu) (heh : ((M - m : Int) : Rat) / (2 * W) * (6 * eh) ≤ 300 * uu) :
    Is (hlsR h l s) x W ∧ Is (hlsG h l s) y W ∧ Is (hlsB h l s) z W := by
  have u0 := uu0
  have tp := castR_pos C.d.p
  have hM := C.M0
  have e2 := C.ms
  have e4 := C.mdv
  obtain ⟨pr, pg, pb⟩ := hls_ap ha.fin la.fin sa.fin h0 h1 l0 l1 s0 s1
  have S0 : 0 ≤ ((M - m : Int) : Rat) / ((Min.min (M + m) (2 * W - (M + m)) : Int) : Rat) := by
    generalize hmd : Min.min (M + m) (2 * W - (M + m)) = md
    rcases Int.lt_or_le 0 md with h | h
    · exact le_div_of (castR_pos h) (by have := castR_nn (show 0 ≤ M - m by omega); grind)
    · have : M - m = 0 := by omega
      rw [this, i0]; grind
  have ll0 : 0 ≤ ((M + m : Int) : Rat) / (2 * W) := le_div_of (by grind) (by have := castR_nn (show 0 ≤ M + m by omega); grind)
  have ll1 : ((M + m : Int) : Rat) / (2 * W) ≤ 1 := div_le_of (by grind) (by have := castR_le (show M + m ≤ 2 * W by omega); rw [Rat.intCast_mul, i2] at this; grind)
  have key : ∀ {q : UInt64} {c : Rat} {X : Int}, 0 ≤ X → X ≤ W → Ap q (fv l + fv s * mn1 (fv l) * (2 * tz (6 * fv h + c) - 1)) (120 * uu) → (X : Rat) = (m : Rat) + ((M - m : Int) : Rat) * tz (Y + c) → Is q X W := fun {q c X} X0 X1 hx hX => by
    refine sh_is2 (g := 900 * uu) C.d X0 X1 ?_ (by grind) (by grind)
    rw [← C.hls_ideal hX]
    exact hls_inv hx l0 l1 ll0 ll1 s0 (by grind) S0 la.sides.1 la.sides.2 sa.sides.1 sa.sides.2 ha.sides.1 ha.sides.2 (by rw [e4]; exact hes) (by rw [e4, e2]; exact heh) (by grind)
  exact ⟨key C.r0 C.r1 pr R.r, key C.g0 C.g1 pg R.g, key C.b0 C.b1 pb R.b⟩
end
section
variable {r g b top M m : Int} (C : Col r g b top M m)
include C
/-- the hue's error is small -/
theorem Col.kb : 0 ≤ uu * (top : Rat) / ((M - m : Int) : Rat) ∧ uu * (top : Rat) / ((M - m : Int) : Rat) ≤ 1 / 10000 := by
  have hM := C.M0
  have u0 := uu0
  have tr := C.d.r
  by_cases h : M - m = 0
  · rw [h, i0]
    have : uu * (top : Rat) / 0 = 0 := by grind
    rw [this]; constructor <;> grind
  · obtain ⟨k1, k2⟩ := C.kap h
    have a := quo_le (u := uu) u0 k1 (by grind) tr.2
    have e : 16384 * uu ≤ 1 / 10000 := by decide +kernel
    exact ⟨le_div_of (by grind) (by have := Rat.mul_nonneg u0 (show (0 : Rat) ≤ top by grind); grind), by grind⟩
theorem Col.hb : -(1 / 100) ≤ (hn r g b M (M - m) : Rat) / ((M - m : Int) : Rat) / 6 ∧ (hn r g b M (M - m) : Rat) / ((M - m : Int) : Rat) / 6 ≤ 101 / 100 := by
  obtain ⟨a, h0, h1⟩ := C.hue_ap
  obtain ⟨k0, k1⟩ := C.kb
  have := a.lo; have := a.hi
  constructor <;> grind
end
theorem ap5 {x : UInt64} {T f : Rat} (h : Ap x T f) (T0 : -4 ≤ T) (T1 : T ≤ 4) (f1 : f ≤ 1 / 900) : -5 ≤ fv x ∧ fv x ≤ 5 := ⟨by have := h.lo; grind, by have := h.hi; grind⟩
theorem ap05 {x : UInt64} {T f : Rat} (h : Ap x T f) (T0 : 1 / 10 ≤ T) (T1 : T ≤ 49 / 10) (f1 : f ≤ 1 / 900) : 0 ≤ fv x ∧ fv x ≤ 5 := ⟨by have := h.lo; grind, by have := h.hi; grind⟩
theorem k11b {k : Int} (h0 : 0 ≤ k) (h1 : k ≤ 11) : 0 ≤ (k : Rat) / 6 ∧ (k : Rat) / 6 ≤ 11 / 6 := by
  have a := castR_nn h0
  have b := castR_le h1
  rw [show ((11 : Int) : Rat) = 11 from rfl] at b
  exact ⟨le_div_of (by decide) (by rw [Rat.zero_mul]; exact a), div_le_of (by decide) (by rw [show (11 : Rat) / 6 * 6 = 11 by decide +kernel]; exact b)⟩
theorem zb0 {X q : Rat} (h : -(1 / 100) ≤ X) (g : q ≤ 11 / 6) : -(37 / 20) ≤ X - q := by grind
theorem zb1 {X q : Rat} (h : X ≤ 101 / 100) (g : 0 ≤ q) : X - q ≤ 37 / 20 := by grind
-- arguments: the hue turned
section
variable {H D : UInt64} {X e : Rat} {k sg : Int} (ha : Ap H X e) (X0 : -(1 / 100) ≤ X) (X1 : X ≤ 101 / 100) (e1 : e ≤ 1 / 1000) (hD : Ap D ((k : Rat) / 6) uu) (k0 : -12 ≤ k) (k1 : k ≤ 12) (hs : sg = 1 ∨ sg = -1)
include ha X0 X1 e1 hD k0 k1 hs
theorem sgX : -(101 / 100) ≤ (sg : Rat) * X ∧ (sg : Rat) * X ≤ 101 / 100 := by
  rcases hs with rfl | rfl
  · rw [i1]; constructor <;> grind
  · rw [im1]; constructor <;> grind
theorem k6 : -2 ≤ (k : Rat) / 6 ∧ (k : Rat) / 6 ≤ 2 := by
  have a := castR_le k0
  have b := castR_le k1
  have e1 : ((-12 : Int) : Rat) = -12 := rfl
  have e2 : ((12 : Int) : Rat) = 12 := rfl
  rw [e1] at a; rw [e2] at b
  constructor <;> grind
theorem sg_mul {Z : UInt64} {T f : Rat} (hz : Ap Z T f) (T0 : -4 ≤ T) (T1 : T ≤ 4) (f1 : f ≤ 1 / 100) : Ap (mul (ofInt sg) Z) ((sg : Rat) * T) (f + uu) := by
  have u0 := uu0
  have us : uu ≤ 1 / 1000000 := by decide +kernel
  have f0 : 0 ≤ f := by have := hz.lo; have := hz.hi; grind
  have ho : Ap (ofInt sg) (sg : Rat) 0 := by
    rcases hs with rfl | rfl
    · obtain ⟨a, b⟩ := ofInt_exact (i := 1) (by decide)
      exact ⟨a, by rw [b]; grind, by rw [b]; grind⟩
    · obtain ⟨a, b⟩ := ofInt_exact (i := -1) (by decide)
      exact ⟨a, by rw [b]; grind, by rw [b]; grind⟩
  have b1 : -1 ≤ (sg : Rat) ∧ (sg : Rat) ≤ 1 := by
    rcases hs with rfl | rfl
    · rw [i1]; constructor <;> grind
    · rw [im1]; constructor <;> grind
  exact ap_mul 1 4 ho hz b1.1 b1.2 T0 T1 (by grind) (by grind)
theorem hueA : Ap (add (add c2 D) (mul (ofInt sg) H)) (2 + (k : Rat) / 6 + (sg : Rat) * X) (e + 5 * uu) := by
  have u0 := uu0
  have us : uu ≤ 1 / 1000000 := by decide +kernel
  obtain ⟨a, b⟩ := sgX ha X0 X1 e1 hD k0 k1 hs
  obtain ⟨c, d⟩ := k6 ha X0 X1 e1 hD k0 k1 hs
  have m := sg_mul ha X0 X1 e1 hD k0 k1 hs ha (by grind) (by grind) (by grind)
  have f0 : 0 ≤ e := by have := ha.lo; have := ha.hi; grind
  have p := ap_add (g := 2 * uu) (ap_self fin_c2) hD (by rw [fv_c2]; grind) (by rw [fv_c2]; grind) (by grind) (by grind)
  rw [fv_c2] at p
  exact ap_add p m (by grind) (by grind) (by grind) (by grind)
theorem hueP : Ap (mul (ofInt sg) (sub H D)) ((sg : Rat) * (X - (k : Rat) / 6)) (e + 4 * uu) := by
  have u0 := uu0
  have us : uu ≤ 1 / 1000000 := by decide +kernel
  obtain ⟨c, d⟩ := k6 ha X0 X1 e1 hD k0 k1 hs
  have f0 : 0 ≤ e := by have := ha.lo; have := ha.hi; grind
  have p := ap_sub (g := e + 2 * uu) ha hD (by grind) (by grind) (by grind) (by grind)
  exact (sg_mul ha X0 X1 e1 hD k0 k1 hs p (by grind) (by grind) (by grind)).wide (by grind)
theorem hueP2 : Ap (add c2 (mul (ofInt sg) (sub H D))) (2 + (sg : Rat) * (X - (k : Rat) / 6)) (e + 5 * uu) := by
  have u0 := uu0
  have us : uu ≤ 1 / 1000000 := by decide +kernel
  obtain ⟨c, d⟩ := k6 ha X0 X1 e1 hD k0 k1 hs
  have f0 : 0 ≤ e := by have := ha.lo; have := ha.hi; grind
  have m := hueP ha X0 X1 e1 hD k0 k1 hs
  have b : -4 ≤ (sg : Rat) * (X - (k : Rat) / 6) ∧ (sg : Rat) * (X - (k : Rat) / 6) ≤ 4 := by
    rcases hs with rfl | rfl
    · rw [i1]; constructor <;> grind
    · rw [im1]; constructor <;> grind
  have p := ap_add (g := e + 5 * uu) (ap_self fin_c2) m (by rw [fv_c2]; grind) (by rw [fv_c2]; grind) (by grind) (by grind)
  rw [fv_c2] at p
  exact p
theorem hueL : Ap (add D (mul (ofInt sg) H)) ((k : Rat) / 6 + (sg : Rat) * X) (e + 5 * uu) := by
  have u0 := uu0
  have us : uu ≤ 1 / 1000000 := by decide +kernel
  obtain ⟨a, b⟩ := sgX ha X0 X1 e1 hD k0 k1 hs
  obtain ⟨c, d⟩ := k6 ha X0 X1 e1 hD k0 k1 hs
  have m := sg_mul ha X0 X1 e1 hD k0 k1 hs ha (by grind) (by grind) (by grind)
  have f0 : 0 ≤ e := by have := ha.lo; have := ha.hi; grind
  exact ap_add hD m (by grind) (by grind) (by grind) (by grind)
theorem hueH : Ap (add H D) (X + (k : Rat) / 6) (e + 5 * uu) ∧ Ap (sub H D) (X - (k : Rat) / 6) (e + 5 * uu) := by
  have u0 := uu0
  have us : uu ≤ 1 / 1000000 := by decide +kernel
  obtain ⟨c, d⟩ := k6 ha X0 X1 e1 hD k0 k1 hs
  have f0 : 0 ≤ e := by have := ha.lo; have := ha.hi; grind
  exact ⟨ap_add ha hD (by grind) (by grind) (by grind) (by grind), ap_sub ha hD (by grind) (by grind) (by grind) (by grind)⟩
theorem sg_abs {z B : Rat} (h0 : -B ≤ z) (h1 : z ≤ B) : -B ≤ (sg : Rat) * z ∧ (sg : Rat) * z ≤ B := by
  rcases hs with rfl | rfl
  · rw [i1, Rat.one_mul]; exact ⟨h0, h1⟩
  · rw [im1, Rat.neg_mul, Rat.one_mul]; exact ⟨Rat.neg_le_neg h1, by rw [← Rat.neg_neg (a := B)]; exact Rat.neg_le_neg h0⟩
theorem hue_e : e + 5 * uu ≤ 1 / 900 ∧ e + 4 * uu ≤ 1 / 900 := by
  have us : uu ≤ 1 / 1000000 := by decide +kernel
  constructor <;> grind
theorem hue_b (k2 : 0 ≤ k) (k3 : k ≤ 11) : (0 ≤ fv (add (add c2 D) (mul (ofInt sg) H)) ∧ fv (add (add c2 D) (mul (ofInt sg) H)) ≤ 5) ∧ 0 ≤ fv (add c2 (mul (ofInt sg) (sub H D))) ∧ fv (add c2 (mul (ofInt sg) (sub H D))) ≤ 5 := by
  have q := k11b k2 k3
  have s := sgX ha X0 X1 e1 hD k0 k1 hs
  have f := hue_e ha X0 X1 e1 hD k0 k1 hs
  have z := sg_abs ha X0 X1 e1 hD k0 k1 hs (z := X - (k : Rat) / 6) (B := 37 / 20) (zb0 X0 q.2) (zb1 X1 q.1)
  exact ⟨ap05 (hueA ha X0 X1 e1 hD k0 k1 hs) (by grind) (by grind) f.1, ap05 (hueP2 ha X0 X1 e1 hD k0 k1 hs) (by grind) (by grind) f.1⟩
theorem hue_bl : (-5 ≤ fv (add D (mul (ofInt sg) H)) ∧ fv (add D (mul (ofInt sg) H)) ≤ 5) ∧ (-5 ≤ fv (mul (ofInt sg) (sub H D)) ∧ fv (mul (ofInt sg) (sub H D)) ≤ 5) ∧ (-5 ≤ fv (add H D) ∧ fv (add H D) ≤ 5) ∧ (-5 ≤ fv (sub H D) ∧ fv (sub H D) ≤ 5) := by
  have q := k6 ha X0 X1 e1 hD k0 k1 hs
  have s := sgX ha X0 X1 e1 hD k0 k1 hs
  have f := hue_e ha X0 X1 e1 hD k0 k1 hs
  have h := hueH ha X0 X1 e1 hD k0 k1 hs
  have z0 : -4 ≤ X - (k : Rat) / 6 := by grind
  have z1 : X - (k : Rat) / 6 ≤ 4 := by grind
  have z := sg_abs ha X0 X1 e1 hD k0 k1 hs z0 z1
  exact ⟨ap5 (hueL ha X0 X1 e1 hD k0 k1 hs) (by grind) (by grind) f.1, ap5 (hueP ha X0 X1 e1 hD k0 k1 hs) z.1 z.2 f.2, ap5 h.1 (by grind) (by grind) f.1, ap5 h.2 z0 z1 f.1⟩
end
/-- k sixths as a float -/
theorem six_ap {k : Int} (k0 : -12 ≤ k) (k1 : k ≤ 12) : Ap (sh k 6) ((k : Rat) / 6) uu := by
  have a := castR_le k0
  have b := castR_le k1
  have e1 : ((-12 : Int) : Rat) = -12 := rfl
  have e2 : ((12 : Int) : Rat) = 12 := rfl
  rw [e1] at a; rw [e2] at b
  have := sh_rnd (a := k) (t := 6) (by decide) (big_of (by rw [i6]; grind) (by rw [i6]; grind))
  rw [i6] at this
  exact rnd_ap this (by grind) (by grind)
end
end
section
section
open PySem PySem.Flt PySem.Float64
/-- mirrored or not -/
theorem mir_lem (r g b mir M m : Int) (hmir : mir = 0 ∨ mir = 1) (hM : max (max r g) b = M) (hm : min (min r g) b = m) :
    ∃ g1 b1 : Int, (if mir = 0 then g else b) = g1 ∧ (if mir = 0 then b else g) = b1 ∧ (1 - 2 * mir = 1 ∨ 1 - 2 * mir = -1) ∧ max (max r g1) b1 = M ∧ min (min r g1) b1 = m ∧
      (∀ y, RepC (r, g, b) m (M - m) y → RepC (r, g1, b1) m (M - m) (((1 - 2 * mir : Int) : Rat) * y)) ∧ (∀ y, RepC (r, g1, b1) m (M - m) y → RepC (r, g, b) m (M - m) (((1 - 2 * mir : Int) : Rat) * y)) := by
  rcases hmir with rfl | rfl
  · refine ⟨g, b, rfl, rfl, .inl (by decide), hM, hm, fun y h => ?_, fun y h => ?_⟩ <;>
    · have : ((1 - 2 * 0 : Int) : Rat) * y = y := by
        have : ((1 - 2 * 0 : Int) : Rat) = 1 := rfl
        rw [this]; grind
      rw [this]; exact h
  · refine ⟨b, g, rfl, rfl, .inr (by decide), (mm_swap hM hm).1, (mm_swap hM hm).2, fun y h => ?_, fun y h => ?_⟩ <;>
    · have : ((1 - 2 * 1 : Int) : Rat) * y = -y := by
        have : ((1 - 2 * 1 : Int) : Rat) = -1 := rfl
        rw [this]; grind
      rw [this]; exact Rep.mir h
/-- turned by k sixths -/
theorem turn_lem {c : Int × Int × Int} {W M m : Int} (hW : Dep W) (hM : max (max c.1 c.2.1) c.2.2 = M) (hm : min (min c.1 c.2.1) c.2.2 = m) (m0 : 0 ≤ m) (M1 : M ≤ W) (k : Int) :
    ∃ x y z : Int, turnN (M + m) (k.fmod 6).toNat c = (x, y, z) ∧ Col x y z W M m ∧ (∀ q, RepC c m (M - m) q → RepC (x, y, z) m (M - m) (q + (k : Rat))) ∧ (∀ q, RepC (x, y, z) m (M - m) q → RepC c m (M - m) (q + -(k : Rat))) := by
  obtain ⟨a, b⟩ := turnN_mm (both := M + m) rfl hM hm (k.fmod 6).toNat
  have f := fm_b k (n := 6) (by decide)
  have t : (((k.fmod 6).toNat : Int)) = k.fmod 6 := Int.toNat_of_nonneg f.1
  have dm : k = 6 * k.fdiv 6 + k.fmod 6 := (Int.mul_fdiv_add_fmod k 6).symm
  have e : (k : Rat) = 6 * (k.fdiv 6 : Rat) + (k.fmod 6 : Rat) := by
    have := congrArg (fun q : Int => (q : Rat)) dm
    simp only [Rat.intCast_add, Rat.intCast_mul, i6] at this
    exact this
  have R1 : ∀ q, RepC c m (M - m) q → RepC (turnN (M + m) (k.fmod 6).toNat c) m (M - m) (q + (k : Rat)) := fun q h => by
    have h1 := repC_turnN (both := M + m) (by omega) h (k.fmod 6).toNat
    rw [t] at h1
    have h2 := Rep.per (k.fdiv 6) h1
    rw [show q + (k.fmod 6 : Rat) + 6 * (k.fdiv 6 : Rat) = q + (k : Rat) by grind] at h2
    exact h2
  have R2 : ∀ q, RepC (turnN (M + m) (k.fmod 6).toNat c) m (M - m) q → RepC c m (M - m) (q + -(k : Rat)) := fun q h => by
    have h1 := repC_unturn (both := M + m) (by omega) (k.fmod 6).toNat h
    rw [t] at h1
    have h2 := Rep.per (-(k.fdiv 6)) h1
    rw [Rat.intCast_neg, show q + -(k.fmod 6 : Rat) + 6 * -(k.fdiv 6 : Rat) = q + -(k : Rat) by grind] at h2
    exact h2
  generalize turnN (M + m) (k.fmod 6).toNat c = v at *
  obtain ⟨x, y, z⟩ := v
  have c := bnd3 a b m0 M1
  exact ⟨x, y, z, rfl, ⟨hW, c.1.1, c.1.2, c.2.1.1, c.2.1.2, c.2.2.1, c.2.2.2, a, b⟩, R1, R2⟩
theorem small40 {a W : Int} (h0 : 0 ≤ a) (h1 : a ≤ W) (hW : W ≤ 16384) : a.natAbs < 2 ^ 40 := by omega
theorem fit {a : Int} (h : a.natAbs ≤ 2 ^ 20) : a.natAbs < 2 ^ 1024 - 2 ^ 970 :=
  Nat.lt_of_le_of_lt h (by decide +kernel)
theorem sec_fit {h : UInt64} (hh : Fin h) (h0 : 0 ≤ fv h) (h1 : fv h ≤ 5) : isFinite (mul h c6) = true ∧ (sec h).natAbs < 2 ^ 1024 - 2 ^ 970 := by
  obtain ⟨a, b, _⟩ := sec_spec hh h0 h1
  exact ⟨a.finite, Nat.lt_of_le_of_lt b (by decide +kernel)⟩
section
variable {r g b top M m : Int} (C : Col r g b top M m)
include C
theorem Col.zV : Mine.grey (sh r top) (sh g top) (sh b top) = false → ¬ isZero (fmax3 (sh r top) (sh g top) (sh b top)) = true ∧ ¬ isZero (rg (sh r top) (sh g top) (sh b top)) = true := fun h => by
  have n : M - m ≠ 0 := fun e => by rw [C.grey.mpr e] at h; cases h
  rw [C.max]; exact C.z1 n
theorem Col.zL : Mine.grey (sh r top) (sh g top) (sh b top) = false → ¬ isZero (rg (sh r top) (sh g top) (sh b top)) = true ∧ (fle (light (sh r top) (sh g top) (sh b top)) cHalf = true → ¬ isZero (add (fmax3 (sh r top) (sh g top) (sh b top)) (fmin3 (sh r top) (sh g top) (sh b top))) = true) ∧
    (fle (light (sh r top) (sh g top) (sh b top)) cHalf = false → ¬ isZero (sub (sub c2 (fmax3 (sh r top) (sh g top) (sh b top))) (fmin3 (sh r top) (sh g top) (sh b top))) = true) := fun h => by
  have n : M - m ≠ 0 := fun e => by rw [C.grey.mpr e] at h; cases h
  rw [C.max, C.min]; exact ⟨(C.z1 n).2, C.z2 n⟩
end
end
end
section
set_option maxRecDepth 100000
section
open PySem PySem.Flt PySem.Float64
theorem cast2 (a : Int) : ((2 * a : Int) : Rat) = 2 * (a : Rat) := by rw [Rat.intCast_mul, i2]
theorem cast4 (a : Int) : ((4 * a : Int) : Rat) = 4 * (a : Rat) := by rw [Rat.intCast_mul, i4]
theorem k9 {κ : Rat} (h : κ ≤ 1 / 10000) : 9 * κ ≤ 1 / 1000 := by grind
theorem k11 {κ : Rat} (h : κ ≤ 1 / 10000) : 11 * κ ≤ 1 / 100 := by grind
theorem u310 : 3 * uu ≤ 10 * uu := by decide +kernel
theorem six_add (a b : Rat) : (a + b) / 6 = a / 6 + b / 6 := by rw [Rat.div_def, Rat.add_mul, ← Rat.div_def, ← Rat.div_def]
theorem six_sub (a b : Rat) : (a + -b) / 6 = a / 6 - b / 6 := by rw [Rat.div_def, Rat.add_mul, Rat.neg_mul, ← Rat.div_def, ← Rat.div_def, ← Rat.sub_eq_add_neg]
theorem sat_b {f S κ : Rat} (h : f ≤ S + (2 * (11 * κ) + uu)) (hS : S ≤ 1) (hk : κ ≤ 1 / 10000) : f ≤ 101 / 100 := by
  have us := uus
  grind
theorem six40 {k : Int} (h0 : -12 ≤ k) (h1 : k ≤ 12) : k.natAbs < 2 ^ 40 := by omega
theorem lt40 {W : Int} (h : W ≤ 16384) : W < 2 ^ 40 := Int.lt_of_le_of_lt h (by decide)
/-- the least of the light and what lacks of it -/
theorem mn_b {M m top : Int} (h0 : 0 ≤ m) (h1 : m ≤ M) (h2 : M ≤ top) : M - m ≤ min (M + m) (2 * top - (M + m)) ∧ 0 ≤ min (M + m) (2 * top - (M + m)) ∧ min (M + m) (2 * top - (M + m)) ≤ 2 * top := by
  have a : M - m ≤ min (M + m) (2 * top - (M + m)) := Int.le_min.mpr ⟨by omega, by omega⟩
  exact ⟨a, Int.le_trans (by omega) a, Int.le_trans (Int.min_le_left ..) (by omega)⟩
/-- a quotient of a part by the whole -/
theorem part_le {a b : Int} (h0 : 0 ≤ a) (h : a ≤ b) : (a : Rat) / b ≤ 1 := by
  rcases Int.lt_or_le 0 b with hb | hb
  · exact div_le_of (castR_pos hb) (by rw [Rat.one_mul]; exact castR_le h)
  · rw [show a = 0 by omega, i0, Rat.div_def, Rat.zero_mul]; decide
theorem part_nn {a b : Int} (h0 : 0 ≤ a) (hb : 0 < b) : 0 ≤ (a : Rat) / b := le_div_of (castR_pos hb) (by rw [Rat.zero_mul]; exact castR_nn h0)
theorem u410 : 3 * uu + uu ≤ 10 * uu := by decide +kernel
theorem u11 : 11 * uu ≤ 100 * uu := by decide +kernel
theorem u45 : 4 * uu ≤ 5 * uu := by decide +kernel
theorem u3k : 3 * uu ≤ 1 / 1000 := by decide +kernel
/-- sg y + k, and sg (y - k), in sixths -/
theorem six_sg (s y k : Rat) : (s * y + k) / 6 = k / 6 + s * (y / 6) := by rw [six_add, dv_m, Rat.add_comm]
theorem six_sgs (s y k : Rat) : s * (y + -k) / 6 = s * (y / 6 - k / 6) := by rw [dv_m, six_sub]
theorem one_sub_dv {a t : Rat} (ht : 0 < t) : 1 - a / (2 * t) = (2 * t - a) / (2 * t) := by
  have : 2 * t ≠ 0 := by grind
  rw [Rat.div_def, Rat.div_def, Rat.sub_eq_add_neg (2 * t), Rat.add_mul, Rat.mul_inv_cancel _ this, Rat.neg_mul, Rat.sub_eq_add_neg]
theorem hl_he {κ u ρ e : Rat} (u0 : 0 ≤ u) (r0 : 0 ≤ ρ) (r1 : ρ ≤ 1) (h : ρ * (27 * κ) ≤ 27 * u) (he : e ≤ 5 * u) : ρ * (1 / 2) * (6 * (9 * κ + e)) ≤ 300 * u := by
  have a := Rat.mul_le_mul_of_nonneg_right r1 u0
  have b := Rat.mul_le_mul_of_nonneg_left he r0
  grind
/-- the light, as it is or turned over -/
theorem ov_sum {M m M2 m2 top ov q : Int} (h : (ov = 0 ∧ q = 0) ∨ (ov = 1 ∧ q = top - M - m)) (h1 : M2 = M + q) (h2 : m2 = m + q) : M2 - m2 = M - m ∧ ((ov = 0 ∧ M2 + m2 = M + m) ∨ (ov = 1 ∧ M2 + m2 = 2 * top - (M + m))) := by
  subst h1 h2
  refine ⟨by omega, ?_⟩
  rcases h with ⟨a, b⟩ | ⟨a, b⟩
  · exact .inl ⟨a, by rw [b]; omega⟩
  · exact .inr ⟨a, by rw [b]; omega⟩
theorem ov_min {a b top ov : Int} (h : (ov = 0 ∧ a = b) ∨ (ov = 1 ∧ a = 2 * top - b)) : min a (2 * top - a) = min b (2 * top - b) := by
  rcases h with ⟨_, rfl⟩ | ⟨_, rfl⟩
  · rfl
  · rw [show 2 * top - (2 * top - b) = b by omega, Int.min_comm]
theorem ov_light {a b top ov : Int} (h0 : 0 < top) (h : (ov = 0 ∧ a = b) ∨ (ov = 1 ∧ a = 2 * top - b)) : (ov : Rat) - (b : Rat) / (2 * top) = (a : Rat) / (2 * top) ∨ (ov : Rat) - (b : Rat) / (2 * top) = -((a : Rat) / (2 * top)) := by
  rcases h with ⟨rfl, rfl⟩ | ⟨rfl, rfl⟩
  · right; rw [i0, Rat.sub_eq_add_neg, Rat.zero_add]
  · left; rw [i1, one_sub_dv (castR_pos h0), Rat.intCast_sub, cast2]
theorem ov_sym {a b top ov : Int} (h : (ov = 0 ∧ a = b) ∨ (ov = 1 ∧ a = 2 * top - b)) : (ov = 0 ∧ b = a) ∨ (ov = 1 ∧ b = 2 * top - a) := by
  rcases h with ⟨e, rfl⟩ | ⟨e, rfl⟩
  · exact .inl ⟨e, rfl⟩
  · exact .inr ⟨e, by omega⟩
theorem half_b {a top : Int} (h0 : 0 < top) (a0 : 0 ≤ a) (a1 : a ≤ 2 * top) : 0 ≤ (a : Rat) / (2 * top) ∧ (a : Rat) / (2 * top) ≤ 1 := by
  have p := part_le a0 a1
  have q := part_nn a0 (show 0 < 2 * top by omega)
  rw [cast2] at p q
  exact ⟨q, p⟩
theorem ov_bnd {M m top ov q : Int} (m0 : 0 ≤ m) (M1 : M ≤ top) (h : (ov = 0 ∧ q = 0) ∨ (ov = 1 ∧ q = top - M - m)) : 0 ≤ m + q ∧ M + q ≤ top := by
  rcases h with ⟨_, rfl⟩ | ⟨_, rfl⟩ <;> omega
theorem fit_sg {s : Int} (h : s = 1 ∨ s = -1) : s.natAbs < 2 ^ 1024 - 2 ^ 970 := fit (by rcases h with rfl | rfl <;> decide)
theorem ov40 {s : Int} (h : s = 0 ∨ s = 1) : s.natAbs < 2 ^ 40 := by rcases h with rfl | rfl <;> decide
theorem fit_ov {s : Int} (h : s = 0 ∨ s = 1) : s.natAbs < 2 ^ 1024 - 2 ^ 970 := fit (by rcases h with rfl | rfl <;> decide)
theorem u6 : 6 * uu ≤ 100 * uu := by decide +kernel
theorem u16 : uu / 16 ≤ 10 * uu := by decide +kernel
theorem le_101 {x : Rat} (h : x ≤ 1) : x ≤ 101 / 100 := Rat.le_trans h (by decide +kernel)
theorem le_m1 {x : Rat} (h : 0 ≤ x) : -1 ≤ x := Rat.le_trans (by decide) h
theorem le_12 {x : Rat} (h : x ≤ 1) : x ≤ 2 := Rat.le_trans h (by decide)
end
end
section
set_option maxRecDepth 100000
section
open PySem PySem.W PySem.Calls PyProof.Rows
structure KJoinFl (x : Str) (v : UInt64) (h₀ : Heap) (L : Addr) (m : Str → Option Value) (news : List (Addr × Obj)) (s : Shared) (f : Flow) (s' : Shared) : Prop where
  next : f = .next
  here : ∃ t : Tok, KJoinAt h₀ L (fun y => if y = x then some (.float v t) else m y) news s s'
noncomputable abbrev KJoinB3 (P : Prop) : Prop := P
section
variable {M : Model} {A : Around} {E : Value → Shared → Prop} {s : Shared} {env : Env} {h₀ : Heap} {L : Addr} {m : Str → Option Value} {news : List (Addr × Obj)}
/-- a plain if that stores one float: one path -/
theorem kjf_if {test : Expr} {x : Str} {p q pos : Pos} {e : Expr} {c : Bool} {a v : UInt64} {t₀ : Tok} {Q : Flow → Shared → Prop} (_F : Fr h₀ L s.heap m) (_N : News h₀ L s.heap news)
    (hold : m x = some (.float a t₀))
    (hc : wpAny M A (isTrue test env (eval test env)) (fun k s₂ => KJoinC c h₀ L m news s k s₂) E s)
    (hv : KJoinB1 (c = true → ∀ s₂, KJoinAt h₀ L m news s s₂ → wpAny M A (exec (.Assign [.Name x p] e q) env) (fun f s₃ => KJoinFl x v h₀ L m news s f s₃) E s₂))
    (hk : KJoinB2 (∀ (r : UInt64) (t : Tok) (s₃ : Shared), r = (if c = true then v else a) → KJoinAt h₀ L (fun y => if y = x then some (.float r t) else m y) news s s₃ → Q .next s₃)) :
    wpAny M A (exec (.If test [.Assign [.Name x p] e q] [] pos) env) Q E s := by
  refine wpAny_If (wpAny_mono hc (fun k s₂ hkc => ?_) fun _ _ h => h)
  obtain ⟨hkc, hat⟩ := hkc
  subst hkc
  cases k with
  | true =>
    show wpAny M A (execs [.Assign [.Name x p] e q] env) Q E s₂
    refine wpAny_execs_cons (wpAny_mono (hv rfl s₂ hat) (fun f s₃ hf => ?_) fun _ _ h => h)
    obtain ⟨hf, t, ht⟩ := hf
    subst hf
    exact wpAny_execs_nil (hk v t s₃ (if_pos rfl).symm ht)
  | false =>
    show wpAny M A (execs [] env) Q E s₂
    refine wpAny_execs_nil (hk a t₀ s₂ (if_neg Bool.false_ne_true).symm ?_)
    have e : (fun y => if y = x then some (Value.float a t₀) else m y) = m := by
      funext y
      by_cases hy : y = x
      · rw [if_pos hy, hy, hold]
      · rw [if_neg hy]
    rw [e]
    exact hat
end
noncomputable def JVMark : Prop := True
structure JV (x : Str) (v : UInt64) (h₀ : Heap) (L : Addr) (m : Str → Option Value) (news : List (Addr × Obj)) (s : Shared) (f : Flow) (s' : Shared) : Prop where
  next : f = .next
  out : ∃ (t : Tok) (h : Heap) (tk : Nat), t ≠ 0 ∧ s' = { s with heap := h, toks := tk } ∧ Fr h₀ L h (fun y => if y = x then some (.float v t) else m y) ∧ News h₀ L h news
theorem JV.intro {x : Str} {v v' : UInt64} {h₀ : Heap} {L : Addr} {m : Str → Option Value} {news : List (Addr × Obj)} {s : Shared} {t : Tok} {h : Heap} {tk : Nat} (F : Fr h₀ L h (fun y => if y = x then some (.float v' t) else m y)) (N : News h₀ L h news) (n : t ≠ 0) (e : v' = v) :
    JV x v h₀ L m news s .next { s with heap := h, toks := tk } := ⟨rfl, t, h, tk, n, rfl, e ▸ F, N⟩
/-- a statement whose ways all store the one float: one path -/
theorem joinV {M : Model} {A : Around} {E : Value → Shared → Prop} {s : Shared} {env : Env} {h₀ : Heap} {L : Addr} {m : Str → Option Value} {news : List (Addr × Obj)} {st : Stmt} {Q : Flow → Shared → Prop} (x : Str) (v : UInt64) (_F : Fr h₀ L s.heap m) (_N : News h₀ L s.heap news)
    (hc : JVMark → wpAny M A (exec st env) (fun f s' => JV x v h₀ L m news s f s') E s)
    (hk : KJoinB2 (∀ (t : Tok) (h : Heap) (tk : Nat), t ≠ 0 → Fr h₀ L h (fun y => if y = x then some (.float v t) else m y) → News h₀ L h news → Q .next { s with heap := h, toks := tk })) :
    wpAny M A (exec st env) Q E s := by
  refine wpAny_mono (hc trivial) (fun f s' h => ?_) fun _ _ h => h
  obtain ⟨rfl, t, h, tk, n, rfl, F, N⟩ := h
  exact hk t h tk n F N
structure JoinM (h₀ : Heap) (L : Addr) (m : Str → Option Value) (news : List (Addr × Obj)) (s : Shared) (v : Value) (s' : Shared) : Prop where
  val : ∃ (x : Int) (t : Tok), v = .int (x.fmod 256) t
  here : KJoinAt h₀ L m news s s'
/-- a conditional expression both of whose sides give a remainder by 256: one path -/
theorem joinM {M : Model} {A : Around} {E : Value → Shared → Prop} {s : Shared} {env : Env} {h₀ : Heap} {L : Addr} {m : Str → Option Value} {news : List (Addr × Obj)} {test b c : Expr} {pos : Pos} {Q : Value → Shared → Prop} (_F : Fr h₀ L s.heap m) (_N : News h₀ L s.heap news)
    (hc : wpAny M A (isTrue test env (eval test env)) (fun k s₂ => if k = true then wpAny M A (eval b env) (fun v s₃ => JoinM h₀ L m news s v s₃) E s₂ else wpAny M A (eval c env) (fun v s₃ => JoinM h₀ L m news s v s₃) E s₂) E s)
    (hk : KJoinB2 (∀ (x : Int) (t : Tok) (s₃ : Shared), KJoinAt h₀ L m news s s₃ → Q (.int (x.fmod 256) t) s₃)) :
    wpAny M A (eval (.IfExp test b c pos) env) Q E s := by
  refine wpAny_mono (IfExp_ hc) (fun v s₃ h => ?_) fun _ _ h => h
  obtain ⟨⟨x, t, rfl⟩, h2⟩ := h
  exact hk x t s₃ h2
noncomputable def satL2 (r g b : UInt64) : UInt64 :=
  if fle (light r g b) cHalf = true then Float64.div (rg r g b) (Float64.add (fmax3 r g b) (fmin3 r g b))
  else Float64.div (rg r g b) (Float64.sub (Float64.sub c2 (fmax3 r g b)) (fmin3 r g b))
theorem clamp2 {x r s : UInt64} (h2 : s = if (Float64.cmp r 4607182418800017408 == some .gt) = true then 4607182418800017408 else r) (h1 : r = if (Float64.cmp x 0 == some .lt) = true then 0 else x) : s = clampF x := by
  subst h2 h1
  unfold clampF flt fgt
  by_cases h : (Float64.cmp x 0 == some .lt) = true
  · rw [if_pos h, if_pos h, if_neg (by decide +kernel)]
  · rw [if_neg h, if_neg h]
end
end
section
open PySem PySem.W PyProof.Rows PySem.Flt
section
section
variable {prog : Program} {w : World} {A : Around} {E : Value → Shared → Prop} {s : Shared} {Q : Value → Shared → Prop}
theorem max_three_f {x y z : UInt64} {t u r : Tok} {h₀ : Heap} {L : Addr} {m : Str → Option Value} {news : List (Addr × Obj)} (hh : A.handled = none) (F : Fr h₀ L s.heap m) (N : News h₀ L s.heap news)
    (h : ∀ h' tk k, Fr h₀ L h' m → News h₀ L h' news → Q (.float (fmax3 x y z) k) { s with heap := h', toks := tk }) :
    wpAny (model prog w) A (call (.builtin "max") [.float x t, .float y u, .float z r]) Q E s := by
  have hT : (s.heap.push { cls := .type "tuple", data := .seq #[.float x t, .float y u, .float z r] }).IsTuple s.heap.objs.size #[.float x t, .float y u, .float z r] := ⟨_, Heap.get?_push_size _ rfl, rfl, 0, rfl⟩
  refine call_max_three (wpAny_pyIter_tuple hT ?_)
  have hsz : (s.heap.push { cls := .type "tuple", data := .seq #[.float x t, .float y u, .float z r] }).objs.size = s.heap.objs.size + 1 := Heap.size_push ..
  refine ⟨_, [_, s.heap.objs.size], [_], _, _, _, _, rfl, Walks.tuple (A := A.in1) hh _ s.heap.objs.size (by rw [hsz]; exact Nat.ne_of_lt (Nat.lt_succ_self _)) #[.float x t, .float y u, .float z r],
    ⟨⟨_, Heap.get?_push_size _ rfl, rfl, rfl⟩, hT.push _⟩, fun c hc => ?_, by simp, cmpOf_gt #[.float x t, .float y u, .float z r] (by simp [NumV.float]), fun v h' tk hP hk => ?_⟩
  · show c < ((s.heap.push _).push _).objs.size
    rw [Heap.size_push, hsz]
    rcases List.mem_cons.mp hc with rfl | hc
    · rw [hsz]; exact Nat.lt_succ_self _
    · rcases List.mem_cons.mp hc with rfl | hc
      · exact Nat.lt_succ_of_lt (Nat.lt_succ_self _)
      · cases hc
  · have hold : ∀ c o, s.heap.get? c = some o → h'.get? c = some o := fun c o e => by
      refine hk c o (fun hm => ?_) (Heap.get?_push_of_some _ (Heap.get?_push_of_some _ e))
      rcases List.mem_cons.mp hm with e1 | hm
      · have := Heap.lt_size e; rw [e1, hsz] at this; exact Nat.lt_irrefl _ (Nat.lt_of_succ_lt this)
      · cases hm
    have hv : ∃ k, v = .float (fmax3 x y z) k := by
      unfold fmax3 fmax2
      cases h1 : (Float64.cmp x y == some .lt)
      · cases h2 : (Float64.cmp x z == some .lt)
        · exact ⟨t, by simpa [argBest, ltV, h1, h2] using hP.symm⟩
        · exact ⟨r, by simpa [argBest, ltV, h1, h2] using hP.symm⟩
      · cases h2 : (Float64.cmp y z == some .lt)
        · exact ⟨u, by simpa [argBest, ltV, h1, h2] using hP.symm⟩
        · exact ⟨r, by simpa [argBest, ltV, h1, h2] using hP.symm⟩
    obtain ⟨k, rfl⟩ := hv
    exact h h' tk k (F.grownK hold) (N.grown hold)
theorem min_three_f {x y z : UInt64} {t u r : Tok} {h₀ : Heap} {L : Addr} {m : Str → Option Value} {news : List (Addr × Obj)} (hh : A.handled = none) (F : Fr h₀ L s.heap m) (N : News h₀ L s.heap news)
    (h : ∀ h' tk k, Fr h₀ L h' m → News h₀ L h' news → Q (.float (fmin3 x y z) k) { s with heap := h', toks := tk }) :
    wpAny (model prog w) A (call (.builtin "min") [.float x t, .float y u, .float z r]) Q E s := by
  have hT : (s.heap.push { cls := .type "tuple", data := .seq #[.float x t, .float y u, .float z r] }).IsTuple s.heap.objs.size #[.float x t, .float y u, .float z r] := ⟨_, Heap.get?_push_size _ rfl, rfl, 0, rfl⟩
  refine call_min_three (wpAny_pyIter_tuple hT ?_)
  have hsz : (s.heap.push { cls := .type "tuple", data := .seq #[.float x t, .float y u, .float z r] }).objs.size = s.heap.objs.size + 1 := Heap.size_push ..
  refine ⟨_, [_, s.heap.objs.size], [_], _, _, _, _, rfl, Walks.tuple (A := A.in1) hh _ s.heap.objs.size (by rw [hsz]; exact Nat.ne_of_lt (Nat.lt_succ_self _)) #[.float x t, .float y u, .float z r],
    ⟨⟨_, Heap.get?_push_size _ rfl, rfl, rfl⟩, hT.push _⟩, fun c hc => ?_, by simp, cmpOf_lt #[.float x t, .float y u, .float z r] (by simp [NumV.float]), fun v h' tk hP hk => ?_⟩
  · show c < ((s.heap.push _).push _).objs.size
    rw [Heap.size_push, hsz]
    rcases List.mem_cons.mp hc with rfl | hc
    · rw [hsz]; exact Nat.lt_succ_self _
    · rcases List.mem_cons.mp hc with rfl | hc
      · exact Nat.lt_succ_of_lt (Nat.lt_succ_self _)
      · cases hc
  · have hold : ∀ c o, s.heap.get? c = some o → h'.get? c = some o := fun c o e => by
      refine hk c o (fun hm => ?_) (Heap.get?_push_of_some _ (Heap.get?_push_of_some _ e))
      rcases List.mem_cons.mp hm with e1 | hm
      · have := Heap.lt_size e; rw [e1, hsz] at this; exact Nat.lt_irrefl _ (Nat.lt_of_succ_lt this)
      · cases hm
    have hv : ∃ k, v = .float (fmin3 x y z) k := by
      unfold fmin3 fmin2
      cases h1 : (Float64.cmp y x == some .lt)
      · cases h2 : (Float64.cmp z x == some .lt)
        · exact ⟨t, by simpa [argBest, ltV, h1, h2] using hP.symm⟩
        · exact ⟨r, by simpa [argBest, ltV, h1, h2] using hP.symm⟩
      · cases h2 : (Float64.cmp z y == some .lt)
        · exact ⟨u, by simpa [argBest, ltV, h1, h2] using hP.symm⟩
        · exact ⟨r, by simpa [argBest, ltV, h1, h2] using hP.symm⟩
    obtain ⟨k, rfl⟩ := hv
    exact h h' tk k (F.grownK hold) (N.grown hold)
end
end
end
section
open PySem PySem.W PyProof.Rows
set_option maxRecDepth 100000
section
set_option maxHeartbeats 8000000 in
theorem hsv_ok {w : World} {mean : ExcName → Option Value} {mg mb : Str → Option Value} (r g b : UInt64) (tr tg tb : Tok) (hz : grey r g b = false → ¬ Float64.isZero (fmax3 r g b) = true ∧ ¬ Float64.isZero (rg r g b) = true) :
   Con 1 w mean mg mb 56 [.float r tr, .float g tg, .float b tb] (RetT (hueOf r g b) (satV r g b) (fmax3 r g b)) := by
  k_with_none
  k_with "omega" => (with_reducible assumption)
  k_with "ktr_room" => first | exact rm1 (by with_reducible assumption) (by exact rfl) | exact rm0 hd
  k_with "ktr_units" => exact rm1 (by with_reducible assumption) (by exact rfl)
  k_with "size_fits" => exact szle (by exact rfl)
  k_with "call builtin:max" => ((with_reducible show wpAny _ _ (call _ [Value.float _ _, Value.float _ _, Value.float _ _]) _ _ _); (rename News _ _ _ _ => N'); (rename Fr _ _ _ _ => F'); refine max_three_f rfl F' N' ?_; clear N'; intro _ _ _ _ _)
  k_with "call builtin:min" => ((with_reducible show wpAny _ _ (call _ [Value.float _ _, Value.float _ _, Value.float _ _]) _ _ _); (rename News _ _ _ _ => N'); (rename Fr _ _ _ _ => F'); refine min_three_f rfl F' N' ?_; clear N'; intro _ _ _ _ _)
  k_with "k_room" => ktr_room
  k_with "execs cons" => (k_here; (with_reducible show wpAny _ _ _ _ _ (Shared.mk _ _ _ (HAdd.hAdd _ 1) _)); refine genTokP ?_; intro tk' ntk')
  k_with "execs nil" => (k_here; (with_reducible show wpAny _ _ _ _ _ (Shared.mk _ _ _ (HAdd.hAdd _ 1) _)); refine genTokP ?_; intro tk' ntk')
  k_with "exec If" => (k_here; (with_reducible show wpAny _ _ (exec (Stmt.If _ [Stmt.Assign [Expr.Name (Str.ofString "h") _] _ _] _ _) _) _ _ _); (fail_if_success (rename JVMark => hM)); (rename Fr _ _ _ _ => F9); (rename News _ _ _ _ => N9); refine joinV (Str.ofString "h") (hue6 r g b) F9 N9 (fun hM => ?_) ?_)
  k_with "JV" => (k_dflt (refine' JV.intro (by assumption) (by assumption) (by first | assumption | exact Nat.succ_ne_zero _) _); first | rfl | (simp only [satL2, light, fle, grey, feq, hue6, cc, rg, *, if_true, if_false, Bool.false_eq_true]; done) | (simp only [satL2, light, fle, grey, feq, hue6, cc, rg, *, if_true, if_false, Bool.false_eq_true]; rfl))
  k_with "KJoinB2" => ((show ∀ _ _ _, _); intro t9 h9 tk9 n9 F9 N9; (try k_sweep))
  k_with "execs cons" => (k_here; (rename News _ _ _ _ => N9); dsimp only at N9; walk_at "execs cons")
  k_with "execs cons" => (k_here; (rename Fr _ _ _ _ => F9); dsimp only at F9; walk_at "execs cons")
  intro dp un gd cn cs a ccd cl outer A₀ base h₀ L m s Q E news B' F' X' N' T' hk hd hu hret
  w_on
  revert X'; k_fill; intro X'
  refine wpAny_call ?_
  k_dflt cell_enter
  rename Fr _ _ _ _ => F'
  replace F' := (show Fr _ _ _ (fun z => List.lookup z [(Str.ofString "b", Value.float b tb), (Str.ofString "g", Value.float g tg), (Str.ofString "r", Value.float r tr)]) from F')
  k_steps
  all_goals first
    | (refine' retT_use hret (by assumption) (by assumption) (by assumption)  _ _ _; all_goals (first | rfl | (simp only [hueOf, satV, grey, feq, cc, rg, *, if_true, if_false, Bool.false_eq_true, Int.reduceEq]; done) | (simp only [hueOf, satV, grey, feq, cc, rg, *, if_true, if_false, Bool.false_eq_true, Int.reduceEq] ; rfl)))
    | (exfalso; exact (hz (by assumption)).1 (by assumption))
    | (exfalso; exact (hz (by assumption)).2 (by assumption))
end
end
section
open PySem PySem.W PyProof.Rows
set_option maxRecDepth 100000
section
set_option maxHeartbeats 8000000 in
theorem hls_ok {w : World} {mean : ExcName → Option Value} {mg mb : Str → Option Value} (r g b : UInt64) (tr tg tb : Tok) (hz : grey r g b = false → ¬ Float64.isZero (rg r g b) = true ∧ (fle (light r g b) cHalf = true → ¬ Float64.isZero (Float64.add (fmax3 r g b) (fmin3 r g b)) = true) ∧ (fle (light r g b) cHalf = false → ¬ Float64.isZero (Float64.sub (Float64.sub c2 (fmax3 r g b)) (fmin3 r g b)) = true)) :
   Con 1 w mean mg mb 35 [.float r tr, .float g tg, .float b tb] (RetT (hueOf r g b) (light r g b) (satL r g b)) := by
  k_with_none
  k_with "omega" => (with_reducible assumption)
  k_with "ktr_room" => first | exact rm1 (by with_reducible assumption) (by exact rfl) | exact rm0 hd
  k_with "ktr_units" => exact rm1 (by with_reducible assumption) (by exact rfl)
  k_with "size_fits" => exact szle (by exact rfl)
  k_with "call builtin:max" => ((with_reducible show wpAny _ _ (call _ [Value.float _ _, Value.float _ _, Value.float _ _]) _ _ _); (rename News _ _ _ _ => N'); (rename Fr _ _ _ _ => F'); refine max_three_f rfl F' N' ?_; clear N'; intro _ _ _ _ _)
  k_with "call builtin:min" => ((with_reducible show wpAny _ _ (call _ [Value.float _ _, Value.float _ _, Value.float _ _]) _ _ _); (rename News _ _ _ _ => N'); (rename Fr _ _ _ _ => F'); refine min_three_f rfl F' N' ?_; clear N'; intro _ _ _ _ _)
  k_with "k_room" => ktr_room
  k_with "execs cons" => (k_here; (with_reducible show wpAny _ _ _ _ _ (Shared.mk _ _ _ (HAdd.hAdd _ 1) _)); refine genTokP ?_; intro tk' ntk')
  k_with "execs nil" => (k_here; (with_reducible show wpAny _ _ _ _ _ (Shared.mk _ _ _ (HAdd.hAdd _ 1) _)); refine genTokP ?_; intro tk' ntk')
  k_with "exec If" => (k_here; (with_reducible show wpAny _ _ (exec (Stmt.If _ [Stmt.Assign [Expr.Name (Str.ofString "s") _] _ _] _ _) _) _ _ _); (fail_if_success (rename JVMark => hM)); (rename Fr _ _ _ _ => F9); (rename News _ _ _ _ => N9); refine joinV (Str.ofString "s") (satL2 r g b) F9 N9 (fun hM => ?_) ?_)
  k_with "exec If" => (k_here; (with_reducible show wpAny _ _ (exec (Stmt.If _ [Stmt.Assign [Expr.Name (Str.ofString "h") _] _ _] _ _) _) _ _ _); (fail_if_success (rename JVMark => hM)); (rename Fr _ _ _ _ => F9); (rename News _ _ _ _ => N9); refine joinV (Str.ofString "h") (hue6 r g b) F9 N9 (fun hM => ?_) ?_)
  k_with "JV" => (k_dflt (refine' JV.intro (by assumption) (by assumption) (by first | assumption | exact Nat.succ_ne_zero _) _); first | rfl | (simp only [satL2, light, fle, grey, feq, hue6, cc, rg, *, if_true, if_false, Bool.false_eq_true]; done) | (simp only [satL2, light, fle, grey, feq, hue6, cc, rg, *, if_true, if_false, Bool.false_eq_true]; rfl))
  k_with "KJoinB2" => ((show ∀ _ _ _, _); intro t9 h9 tk9 n9 F9 N9; (try k_sweep))
  k_with "execs cons" => (k_here; (rename News _ _ _ _ => N9); dsimp only at N9; walk_at "execs cons")
  k_with "execs cons" => (k_here; (rename Fr _ _ _ _ => F9); dsimp only at F9; walk_at "execs cons")
  intro dp un gd cn cs a ccd cl outer A₀ base h₀ L m s Q E news B' F' X' N' T' hk hd hu hret
  w_on
  revert X'; k_fill; intro X'
  refine wpAny_call ?_
  k_dflt cell_enter
  rename Fr _ _ _ _ => F'
  replace F' := (show Fr _ _ _ (fun z => List.lookup z [(Str.ofString "b", Value.float b tb), (Str.ofString "g", Value.float g tg), (Str.ofString "r", Value.float r tr)]) from F')
  k_steps
  all_goals first
    | (refine' retT_use hret (by assumption) (by assumption) (by assumption)  _ _ _; all_goals (first | rfl | (simp only [hueOf, satL, satL2, light, fle, grey, feq, cc, rg, *, if_true, if_false, Bool.false_eq_true, Int.reduceEq]; done) | (simp only [hueOf, satL, satL2, light, fle, grey, feq, cc, rg, *, if_true, if_false, Bool.false_eq_true, Int.reduceEq] ; rfl)))
    | (exfalso; exact (hz (by assumption)).1 (by assumption))
    | (exfalso; exact (hz (by assumption)).2.1 (by assumption) (by assumption))
    | (exfalso; exact (hz (by assumption)).2.2 (by assumption) (by assumption))
end
end
section
open PySem PySem.W PyProof.Rows
set_option maxRecDepth 100000
section
set_option maxHeartbeats 8000000 in
theorem hr_ok {w : World} {mean : ExcName → Option Value} {mg mb : Str → Option Value} (h sa v : UInt64) (th ts tv : Tok) (hz : feq sa 0 = false → Float64.isFinite (Float64.mul h c6) = true ∧ (sec h).natAbs < 2 ^ 1024 - 2 ^ 970) :
   Con 1 w mean mg mb 63 [.float h th, .float sa ts, .float v tv] (RetT (hsvR h sa v) (hsvG h sa v) (hsvB h sa v)) := by
  k_with_none
  k_with "omega" => (with_reducible assumption)
  k_with "ktr_room" => first | exact rm1 (by with_reducible assumption) (by exact rfl) | exact rm0 hd
  k_with "ktr_units" => exact rm1 (by with_reducible assumption) (by exact rfl)
  k_with "size_fits" => exact szle (by exact rfl)
  k_with "call builtin:max" => ((with_reducible show wpAny _ _ (call _ [Value.float _ _, Value.float _ _, Value.float _ _]) _ _ _); (rename News _ _ _ _ => N'); (rename Fr _ _ _ _ => F'); refine max_three_f rfl F' N' ?_; clear N'; intro _ _ _ _ _)
  k_with "call builtin:min" => ((with_reducible show wpAny _ _ (call _ [Value.float _ _, Value.float _ _, Value.float _ _]) _ _ _); (rename News _ _ _ _ => N'); (rename Fr _ _ _ _ => F'); refine min_three_f rfl F' N' ?_; clear N'; intro _ _ _ _ _)
  k_with "k_room" => ktr_room
  k_with "execs cons" => (k_here; (with_reducible show wpAny _ _ _ _ _ (Shared.mk _ _ _ (HAdd.hAdd _ 1) _)); refine genTokP ?_; intro tk' ntk')
  k_with "execs nil" => (k_here; (with_reducible show wpAny _ _ _ _ _ (Shared.mk _ _ _ (HAdd.hAdd _ 1) _)); refine genTokP ?_; intro tk' ntk')
  k_with "execs cons" => (k_here; (rename News _ _ _ _ => N9); dsimp only at N9; walk_at "execs cons")
  k_with "execs cons" => (k_here; (rename Fr _ _ _ _ => F9); dsimp only at F9; walk_at "execs cons")
  intro dp un gd cn cs a ccd cl outer A₀ base h₀ L m s Q E news B' F' X' N' T' hk hd hu hret
  w_on
  revert X'; k_fill; intro X'
  refine wpAny_call ?_
  k_dflt cell_enter
  rename Fr _ _ _ _ => F'
  replace F' := (show Fr _ _ _ (fun z => List.lookup z [(Str.ofString "v", Value.float v tv), (Str.ofString "s", Value.float sa ts), (Str.ofString "h", Value.float h th)]) from F')
  k_steps
  all_goals first
    | (refine' retT_use hret (by assumption) (by assumption) (by assumption)  _ _ _; all_goals (first | rfl | (simp only [hsvR, hsvG, hsvB, feq, vP, vQ, vT, frc, sec, *, if_true, if_false, Bool.false_eq_true, Int.reduceEq]; done) | (simp only [hsvR, hsvG, hsvB, feq, vP, vQ, vT, frc, sec, *, if_true, if_false, Bool.false_eq_true, Int.reduceEq] ; rfl)))
    | (exfalso; exact not_nan_t (hz (by assumption)).1 (by assumption))
    | (exfalso; exact not_inf_t (hz (by assumption)).1 (by assumption))
    | (exfalso; exact Nat.not_le_of_lt (hz (by assumption)).2 (by assumption))
    | (exfalso; rcases fmod6 (Flt.toInt Float64.truncOf (Float64.mul h 4618441417868443648)) with h | h | h | h | h | h <;> contradiction)
end
end
section
open PySem PySem.W PyProof.Rows
set_option maxRecDepth 100000
section
set_option maxHeartbeats 8000000 in
theorem v_ok {w : World} {mean : ExcName → Option Value} {mg mb : Str → Option Value} (m1 m2 hue : UInt64) (th ts tv : Tok) :
   Con 1 w mean mg mb 49 [.float m1 th, .float m2 ts, .float hue tv] (RetF (fv6 m1 m2 hue)) := by
  k_with_none
  k_with "omega" => (with_reducible assumption)
  k_with "ktr_room" => first | exact rm1 (by with_reducible assumption) (by exact rfl) | exact rm0 hd
  k_with "ktr_units" => exact rm1 (by with_reducible assumption) (by exact rfl)
  k_with "size_fits" => exact szle (by exact rfl)
  k_with "call builtin:max" => ((with_reducible show wpAny _ _ (call _ [Value.float _ _, Value.float _ _, Value.float _ _]) _ _ _); (rename News _ _ _ _ => N'); (rename Fr _ _ _ _ => F'); refine max_three_f rfl F' N' ?_; clear N'; intro _ _ _ _ _)
  k_with "call builtin:min" => ((with_reducible show wpAny _ _ (call _ [Value.float _ _, Value.float _ _, Value.float _ _]) _ _ _); (rename News _ _ _ _ => N'); (rename Fr _ _ _ _ => F'); refine min_three_f rfl F' N' ?_; clear N'; intro _ _ _ _ _)
  k_with "k_room" => ktr_room
  k_with "execs cons" => (k_here; (with_reducible show wpAny _ _ _ _ _ (Shared.mk _ _ _ (HAdd.hAdd _ 1) _)); refine genTokP ?_; intro tk' ntk')
  k_with "execs nil" => (k_here; (with_reducible show wpAny _ _ _ _ _ (Shared.mk _ _ _ (HAdd.hAdd _ 1) _)); refine genTokP ?_; intro tk' ntk')
  intro dp un gd cn cs a ccd cl outer A₀ base h₀ L m s Q E news B' F' X' N' T' hk hd hu hret
  w_on
  revert X'; k_fill; intro X'
  refine wpAny_call ?_
  k_dflt cell_enter
  k_steps
  all_goals first
    | (refine' retF_use hret (by assumption) (by assumption) _; (first | rfl | (simp only [fv6, flt, *, if_true, if_false, Bool.false_eq_true]; done) | (simp only [fv6, flt, *, if_true, if_false, Bool.false_eq_true] ; rfl)))
end
end
section
open PySem PySem.W PyProof.Rows
set_option maxRecDepth 100000
section
set_option maxHeartbeats 8000000 in
theorem hlr_ok {w : World} {mean : ExcName → Option Value} {mg mb : Str → Option Value} (h l sa : UInt64) (th ts tv : Tok) :
   Con 2 w mean mg mb 42 [.float h th, .float l ts, .float sa tv] (RetT (hlsR h l sa) (hlsG h l sa) (hlsB h l sa)) := by
  k_with_none
  k_with "omega" => (with_reducible assumption)
  k_with "ktr_room" => first | exact rm1 (by with_reducible assumption) (by exact rfl) | exact rm0 hd
  k_with "ktr_units" => exact rm1 (by with_reducible assumption) (by exact rfl)
  k_with "size_fits" => exact szle (by exact rfl)
  k_with "call builtin:max" => ((with_reducible show wpAny _ _ (call _ [Value.float _ _, Value.float _ _, Value.float _ _]) _ _ _); (rename News _ _ _ _ => N'); (rename Fr _ _ _ _ => F'); refine max_three_f rfl F' N' ?_; clear N'; intro _ _ _ _ _)
  k_with "call builtin:min" => ((with_reducible show wpAny _ _ (call _ [Value.float _ _, Value.float _ _, Value.float _ _]) _ _ _); (rename News _ _ _ _ => N'); (rename Fr _ _ _ _ => F'); refine min_three_f rfl F' N' ?_; clear N'; intro _ _ _ _ _)
  k_with "k_room" => ktr_room
  k_with "execs cons" => (k_here; (with_reducible show wpAny _ _ _ _ _ (Shared.mk _ _ _ (HAdd.hAdd _ 1) _)); refine genTokP ?_; intro tk' ntk')
  k_with "execs nil" => (k_here; (with_reducible show wpAny _ _ _ _ _ (Shared.mk _ _ _ (HAdd.hAdd _ 1) _)); refine genTokP ?_; intro tk' ntk')
  k_with "call ref" => (k_here; k_dflt (show wpAny _ _ (call (Value.ref 49) _) _ _ _); k_dflt (refine' v_ok _ _ _ _ _ _ _ _ _ _ _ _ _ _ _ _ _ _ _ _ _ _ _ _ (by k_asm) (by k_asm) (by k_asm) (by k_asm) (by k_asm) (by first | exact rfl | assumption) (by ktr_room) (by ktr_units) _; k_whole); intro _ _ _ _ _; (try dsimp only); (try k_fold))
  intro dp un gd cn cs a ccd cl outer A₀ base h₀ L m s Q E news B' F' X' N' T' hk hd hu hret
  w_on
  revert X'; k_fill; intro X'
  refine wpAny_call ?_
  k_dflt cell_enter
  rename Fr _ _ _ _ => F'
  replace F' := (show Fr _ _ _ (fun z => List.lookup z [(Str.ofString "s", Value.float sa tv), (Str.ofString "l", Value.float l ts), (Str.ofString "h", Value.float h th)]) from F')
  k_steps
  all_goals first
    | (refine' retT_use hret (by assumption) (by assumption) (by assumption)  _ _ _; all_goals (first | rfl | (simp only [hlsR, hlsG, hlsB, feq, fle, lM1, lM2, *, if_true, if_false, Bool.false_eq_true, Int.reduceEq]; done) | (simp only [hlsR, hlsG, hlsB, feq, fle, lM1, lM2, *, if_true, if_false, Bool.false_eq_true, Int.reduceEq] ; rfl)))
end
end
section
open PySem PySem.W PyProof.Rows
set_option maxRecDepth 100000
section
set_option maxHeartbeats 8000000 in
theorem yr_ok {w : World} {mean : ExcName → Option Value} {mg mb : Str → Option Value} (y i q : UInt64) (tr tg tb : Tok) :
   Con 1 w mean mg mb 28 [.float y tr, .float i tg, .float q tb] (RetT (yR y i q) (yG y i q) (yB y i q)) := by
  k_with_none
  k_with "omega" => (with_reducible assumption)
  k_with "ktr_room" => first | exact rm1 (by with_reducible assumption) (by exact rfl) | exact rm0 hd
  k_with "ktr_units" => exact rm1 (by with_reducible assumption) (by exact rfl)
  k_with "size_fits" => exact szle (by exact rfl)
  k_with "call builtin:max" => ((with_reducible show wpAny _ _ (call _ [Value.float _ _, Value.float _ _, Value.float _ _]) _ _ _); (rename News _ _ _ _ => N'); (rename Fr _ _ _ _ => F'); refine max_three_f rfl F' N' ?_; clear N'; intro _ _ _ _ _)
  k_with "call builtin:min" => ((with_reducible show wpAny _ _ (call _ [Value.float _ _, Value.float _ _, Value.float _ _]) _ _ _); (rename News _ _ _ _ => N'); (rename Fr _ _ _ _ => F'); refine min_three_f rfl F' N' ?_; clear N'; intro _ _ _ _ _)
  k_with "k_room" => ktr_room
  k_with "execs cons" => (k_here; (with_reducible show wpAny _ _ _ _ _ (Shared.mk _ _ _ (HAdd.hAdd _ 1) _)); refine genTokP ?_; intro tk' ntk')
  k_with "execs nil" => (k_here; (with_reducible show wpAny _ _ _ _ _ (Shared.mk _ _ _ (HAdd.hAdd _ 1) _)); refine genTokP ?_; intro tk' ntk')
  k_with "exec If" => (k_here; (rename Fr _ _ _ _ => F'); (rename News _ _ _ _ => N'); apply kjf_if F' N'; (case hold => with_unfolding_all rfl))
  k_with "KJoinFl" => exact ⟨rfl, _, ⟨⟨_, _, rfl, by assumption, by assumption⟩⟩⟩
  k_with "KJoinB2" => ((show ∀ _ _ _, _ → _ → _); intro r' t' s' hr' hJ'; obtain ⟨h', tk', e', F'', N''⟩ := KJoinAt.at_ hJ'; subst e')
  intro dp un gd cn cs a ccd cl outer A₀ base h₀ L m s Q E news B' F' X' N' T' hk hd hu hret
  w_on
  revert X'; k_fill; intro X'
  refine wpAny_call ?_
  k_dflt cell_enter
  rename Fr _ _ _ _ => F'
  replace F' := (show Fr _ _ _ (fun z => List.lookup z [(Str.ofString "q", Value.float q tb), (Str.ofString "i", Value.float i tg), (Str.ofString "y", Value.float y tr)]) from F')
  k_steps
  all_goals (refine' retT_use hret (by assumption) (by assumption) (by assumption) _ _ _ <;> exact clamp2 (by assumption) (by assumption))
end
end
section
open PySem PySem.W PyProof.Rows
set_option maxRecDepth 100000
section
set_option maxHeartbeats 8000000 in
theorem yiq_ok {w : World} {mean : ExcName → Option Value} {mg mb : Str → Option Value} (r g b : UInt64) (tr tg tb : Tok) :
   Con 1 w mean mg mb 21 [.float r tr, .float g tg, .float b tb] (RetT (yiqY r g b) (yiqI r g b) (yiqQ r g b)) := by
  k_with_none
  k_with "omega" => (with_reducible assumption)
  k_with "ktr_room" => first | exact rm1 (by with_reducible assumption) (by exact rfl) | exact rm0 hd
  k_with "ktr_units" => exact rm1 (by with_reducible assumption) (by exact rfl)
  k_with "size_fits" => exact szle (by exact rfl)
  k_with "call builtin:max" => ((with_reducible show wpAny _ _ (call _ [Value.float _ _, Value.float _ _, Value.float _ _]) _ _ _); (rename News _ _ _ _ => N'); (rename Fr _ _ _ _ => F'); refine max_three_f rfl F' N' ?_; clear N'; intro _ _ _ _ _)
  k_with "call builtin:min" => ((with_reducible show wpAny _ _ (call _ [Value.float _ _, Value.float _ _, Value.float _ _]) _ _ _); (rename News _ _ _ _ => N'); (rename Fr _ _ _ _ => F'); refine min_three_f rfl F' N' ?_; clear N'; intro _ _ _ _ _)
  k_with "k_room" => ktr_room
  k_with "execs cons" => (k_here; (with_reducible show wpAny _ _ _ _ _ (Shared.mk _ _ _ (HAdd.hAdd _ 1) _)); refine genTokP ?_; intro tk' ntk')
  k_with "execs nil" => (k_here; (with_reducible show wpAny _ _ _ _ _ (Shared.mk _ _ _ (HAdd.hAdd _ 1) _)); refine genTokP ?_; intro tk' ntk')
  intro dp un gd cn cs a ccd cl outer A₀ base h₀ L m s Q E news B' F' X' N' T' hk hd hu hret
  w_on
  revert X'; k_fill; intro X'
  refine wpAny_call ?_
  k_dflt cell_enter
  rename Fr _ _ _ _ => F'
  replace F' := (show Fr _ _ _ (fun z => List.lookup z [(Str.ofString "b", Value.float b tb), (Str.ofString "g", Value.float g tg), (Str.ofString "r", Value.float r tr)]) from F')
  k_steps
  all_goals first
    | (refine' retT_use hret (by assumption) (by assumption) (by assumption) _ _ _; all_goals (first | rfl | (simp only [yiqY, yiqI, yiqQ, *, if_true, if_false, Bool.false_eq_true, Int.reduceEq]; done) | (simp only [yiqY, yiqI, yiqQ, *, if_true, if_false, Bool.false_eq_true, Int.reduceEq] ; rfl)))
end
end
section
set_option maxRecDepth 100000
section
open PySem PySem.W PySem.Calls PyProof.Rows
section
variable {w : World} {mean : ExcName → Option Value} {mg mb : Str → Option Value}
theorem hsv_k {r g b x y z : UInt64} {tr tg tb : Tok} (ex : hueOf r g b = x) (ey : satV r g b = y) (ez : fmax3 r g b = z) (hz : grey r g b = false → ¬ Float64.isZero (fmax3 r g b) = true ∧ ¬ Float64.isZero (rg r g b) = true) :
    Con 1 w mean mg mb 56 [.float r tr, .float g tg, .float b tb] (RetT x y z) := by
  subst ex ey ez; exact hsv_ok r g b tr tg tb hz
theorem hls_k {r g b x y z : UInt64} {tr tg tb : Tok} (ex : hueOf r g b = x) (ey : light r g b = y) (ez : satL r g b = z) (hz : grey r g b = false → ¬ Float64.isZero (rg r g b) = true ∧ (fle (light r g b) cHalf = true → ¬ Float64.isZero (Float64.add (fmax3 r g b) (fmin3 r g b)) = true) ∧ (fle (light r g b) cHalf = false → ¬ Float64.isZero (Float64.sub (Float64.sub c2 (fmax3 r g b)) (fmin3 r g b)) = true)) :
    Con 1 w mean mg mb 35 [.float r tr, .float g tg, .float b tb] (RetT x y z) := by
  subst ex ey ez; exact hls_ok r g b tr tg tb hz
theorem yiq_k {r g b x y z : UInt64} {tr tg tb : Tok} (ex : yiqY r g b = x) (ey : yiqI r g b = y) (ez : yiqQ r g b = z) : Con 1 w mean mg mb 21 [.float r tr, .float g tg, .float b tb] (RetT x y z) := by
  subst ex ey ez; exact yiq_ok r g b tr tg tb
theorem hr_k {r g b x y z : UInt64} {tr tg tb : Tok} (ex : hsvR r g b = x) (ey : hsvG r g b = y) (ez : hsvB r g b = z) (hz : feq g 0 = false → Float64.isFinite (Float64.mul r c6) = true ∧ (sec r).natAbs < 2 ^ 1024 - 2 ^ 970) : Con 1 w mean mg mb 63 [.float r tr, .float g tg, .float b tb] (RetT x y z) := by
  subst ex ey ez; exact hr_ok r g b tr tg tb hz
theorem hlr_k {r g b x y z : UInt64} {tr tg tb : Tok} (ex : hlsR r g b = x) (ey : hlsG r g b = y) (ez : hlsB r g b = z) : Con 2 w mean mg mb 42 [.float r tr, .float g tg, .float b tb] (RetT x y z) := by
  subst ex ey ez; exact hlr_ok r g b tr tg tb
theorem yr_k {r g b x y z : UInt64} {tr tg tb : Tok} (ex : yR r g b = x) (ey : yG r g b = y) (ez : yB r g b = z) : Con 1 w mean mg mb 28 [.float r tr, .float g tg, .float b tb] (RetT x y z) := by
  subst ex ey ez; exact yr_ok r g b tr tg tb
end
end
end
section
set_option maxRecDepth 100000
section
open PySem PySem.W PySem.Calls PyProof.Rows
section
variable {prog : Program} {w : World} {A : Around} {E : Value → Shared → Prop} {s : Shared} {h₀ : Heap} {L p : Addr} {m : Str → Option Value} {news : List (Addr × Obj)} {Q : Value → Shared → Prop} {r g b M : Int} {n : Nat} {t1 t2 t3 : Tok}
/-- the greatest of a colour, by its letter -/
theorem max_l (hh : A.handled = none) (F : Fr h₀ L s.heap m) (N : News h₀ L s.heap news) (m1 : (p, in3 n r g b t1 t2 t3) ∈ news) (hM : ∀ x, (x = r ∨ x = g ∨ x = b) → (r ≤ x ∧ g ≤ x ∧ b ≤ x) → x = M)
    (h : ∀ (t : Tok) h' tk, Fr h₀ L h' m → News h₀ L h' news → Q (.int M t) { s with heap := h', toks := tk }) : wpAny (model prog w) A (call (.builtin "max") [.ref p]) Q E s :=
  kso_max F N (kso_isList N m1 rfl) (IntsAre.cons _ _ (IntsAre.cons _ _ (IntsAre.cons _ _ IntsAre.nil))) (Nat.zero_lt_succ _) hh fun h' x t tk F' N' a b => by
    have := hM x (by simpa using a) ⟨b _ (by simp), b _ (by simp), b _ (by simp)⟩
    subst this
    exact h t h' tk F' N'
theorem min_l (hh : A.handled = none) (F : Fr h₀ L s.heap m) (N : News h₀ L s.heap news) (m1 : (p, in3 n r g b t1 t2 t3) ∈ news) (hM : ∀ x, (x = r ∨ x = g ∨ x = b) → (x ≤ r ∧ x ≤ g ∧ x ≤ b) → x = M)
    (h : ∀ (t : Tok) h' tk, Fr h₀ L h' m → News h₀ L h' news → Q (.int M t) { s with heap := h', toks := tk }) : wpAny (model prog w) A (call (.builtin "min") [.ref p]) Q E s :=
  kso_min F N (kso_isList N m1 rfl) (IntsAre.cons _ _ (IntsAre.cons _ _ (IntsAre.cons _ _ IntsAre.nil))) (Nat.zero_lt_succ _) hh fun h' x t tk F' N' a b => by
    have := hM x (by simpa using a) ⟨b _ (by simp), b _ (by simp), b _ (by simp)⟩
    subst this
    exact h t h' tk F' N'
theorem shares_p {mean : ExcName → Option Value} {mg mb : Str → Option Value} {dp un : Nat} {gd : Option (List Code)} {cn : Str} {cs : Scope} {a : Addr} {ccd : Value} {cl : List (Str × Addr)} {outer : List Env} {A₀ : Around} {base : Heap} {top : Int} {tt : Tok} {R G B : UInt64}
    (F' : Fr h₀ L s.heap m) (N' : News h₀ L s.heap news) (m1 : (p, in3 n r g b t1 t2 t3) ∈ news) (e1 : sh r top = R) (e2 : sh g top = G) (e3 : sh b top = B) (hr : r.natAbs < 2 ^ 40) (hg : g.natAbs < 2 ^ 40) (hb : b.natAbs < 2 ^ 40) (htop : 0 < top)
    (B' : Below A₀ base outer h₀) (X' : (H.hd02.heap_39 w.params).In h₀) (T' : Top topProg loose1 mean mg mb h₀) (hk : cs.kind = .function) (hd : dp + 2 < recursionLimit) (hu : un + 8 * 2 < cLine)
    (hret : ∀ (p' : Addr) (t1 t2 t3 : Tok) (h' : Heap) (tk' : Nat), Fr h₀ L h' m → News h₀ L h' ((p', fl3 R G B t1 t2 t3) :: news) → (∀ q ∈ news, q.1 ≠ p') → Q (.ref p') { s with heap := h', toks := tk' }) :
    wpAny (model Challenge.rw_mj0002_02.row.prog w) (ktrTop dp un gd cn cs L a ccd cl outer) (call (.ref 68) [.ref p, .int top tt]) Q E s :=
  shares_w F' N' m1 e1 e2 e3 hr hg hb (fun e => by rw [e] at htop; exact absurd htop (by decide)) B' X' T' hk hd hu hret
end
end
end
section
set_option maxRecDepth 100000
section
open PySem PySem.W PySem.Calls PyProof.Rows
section
variable {prog : Program} {w : World} {A : Around} {E : Value → Shared → Prop} {s : Shared} {Q : Value → Shared → Prop} {a b c : Int} {t u : Tok}
/-- sums of ints whose value has a letter -/
theorem addI (e : a + b = c) (h : ∀ t' : Nat, Q (.int c t') { s with toks := t' + 1 }) : wpAny (model prog w) A (binaryOp .Add (.int a t) (.int b u)) Q E s := add_int (by rw [e]; exact h _)
theorem subI (e : a - b = c) (h : ∀ t' : Nat, Q (.int c t') { s with toks := t' + 1 }) : wpAny (model prog w) A (binaryOp .Sub (.int a t) (.int b u)) Q E s := sub_int (by rw [e]; exact h _)
theorem modI (hb : b ≠ 0) (e : a.fmod b = c) (h : ∀ t' : Nat, Q (.int c t') { s with toks := t' + 1 }) : wpAny (model prog w) A (binaryOp .Mod (.int a t) (.int b u)) Q E s := mod_int' hb (by rw [e]; exact h _)
theorem mok {a b : Int} (h : a.natAbs < 2 ^ 40 ∨ b.natAbs < 2 ^ 40) : IntMulOk a b := by
  rcases h with h | h
  · exact .of_left (intBits_le_64 (by omega) (by omega))
  · exact .of_right (intBits_le_64 (by omega) (by omega))
theorem mulI (e : a * b = c) (hm : IntMulOk a b) (h : ∀ t' : Nat, Q (.int c t') { s with toks := t' + 1 }) : wpAny (model prog w) A (binaryOp .Mult (.int a t) (.int b u)) Q E s := mul_int (by rw [e]; exact h _) hm
theorem mokl {a b : Int} (e : (a.natAbs + 1).ble (2 ^ 40) = true) : IntMulOk a b := mok (.inl (Nat.le_of_ble_eq_true e))
theorem mulIF {x : UInt64} (hn : a.natAbs < 2 ^ 1024 - 2 ^ 970) (hA : A.handled = none) (h : ∀ t' : Nat, Q (.float (Float64.mul (Float64.ofInt a) x) t') { s with toks := t' + 1 }) : wpAny (model prog w) A (binaryOp .Mult (.int a t) (.float x u)) Q E s :=
  mul_if_sharp hA (fun c => absurd c (Nat.not_le.mpr hn)) (fun _ => h _)
theorem subIF {x : UInt64} (hn : a.natAbs < 2 ^ 1024 - 2 ^ 970) (hA : A.handled = none) (h : ∀ t' : Nat, Q (.float (Float64.sub (Float64.ofInt a) x) t') { s with toks := t' + 1 }) : wpAny (model prog w) A (binaryOp .Sub (.int a t) (.float x u)) Q E s :=
  sub_if_sharp hA (fun c => absurd c (Nat.not_le.mpr hn)) (fun _ => h _)
end
/-- a mark: the ledger goes by a letter from here on -/
noncomputable def GenOn : Prop := True
theorem genOn : GenOn := trivial
theorem memT {l : List (Addr × Obj)} {x y : Addr × Obj} (m : y ∈ l) : y ∈ x :: l := .tail _ m
theorem memS1 {l R : List (Addr × Obj)} {x y : Addr × Obj} (s : ∀ q ∈ x :: l, q ∈ R) (m : y ∈ l) : y ∈ R := s _ (.tail _ m)
theorem memS2 {l R : List (Addr × Obj)} {x z y : Addr × Obj} (s : ∀ q ∈ x :: z :: l, q ∈ R) (m : y ∈ l) : y ∈ R := s _ (.tail _ (.tail _ m))
theorem memS3 {l R : List (Addr × Obj)} {x z v y : Addr × Obj} (s : ∀ q ∈ x :: z :: v :: l, q ∈ R) (m : y ∈ l) : y ∈ R := s _ (.tail _ (.tail _ (.tail _ m)))
theorem memS4 {l R : List (Addr × Obj)} {x z v u y : Addr × Obj} (s : ∀ q ∈ x :: z :: v :: u :: l, q ∈ R) (m : y ∈ l) : y ∈ R := s _ (.tail _ (.tail _ (.tail _ (.tail _ m))))
/-- the ledger by a letter -/
theorem genNews {α : Type} {M : Model} {A : Around} {t : Sem α} {Q : α → Shared → Prop} {E : Value → Shared → Prop} {h : Heap} {g : Array GenState} {d : Drawn} {tk : Nat} {os : OsState} {h₀ : Heap} {L : Addr} {l : List (Addr × Obj)} (N : News h₀ L h l)
    (k : ∀ R, (∀ q ∈ l, q ∈ R) → News h₀ L h R → wpAny M A t Q E ⟨h, g, d, tk, os⟩) : wpAny M A t Q E ⟨h, g, d, tk, os⟩ := k l (fun _ m => m) N
section
variable {h₀ h : Heap} {L p : Addr} {l l' : List (Addr × Obj)} {a0 a1 a2 a3 a4 a5 a6 a7 : Addr × Obj} {x y z : UInt64} {t1 t2 t3 : Tok}
/-- dead lists of three floats leave the ledger -/
theorem consN {a : Addr × Obj} (N : News h₀ L h (a :: l)) (k : News h₀ L h l → News h₀ L h l') : News h₀ L h (a :: l') := fun q hq => (List.mem_cons.mp hq).elim (fun e => N q (e ▸ List.Mem.head _)) (k (fun q m => N q (.tail _ m)) q)
noncomputable abbrev f3L (p : Addr) (x y z : UInt64) (t1 t2 t3 : Tok) : Addr × Obj := (p, LCg.lst [.float x t1, .float y t2, .float z t3])
theorem dropF0 (N : News h₀ L h (f3L p x y z t1 t2 t3 :: l)) : News h₀ L h l := fun q hq => N q (.tail _ hq)
theorem dropF1 (N : News h₀ L h (a0 :: f3L p x y z t1 t2 t3 :: l)) : News h₀ L h (a0 :: l) := consN N dropF0
theorem dropF2 (N : News h₀ L h (a0 :: a1 :: f3L p x y z t1 t2 t3 :: l)) : News h₀ L h (a0 :: a1 :: l) := consN N dropF1
theorem dropF3 (N : News h₀ L h (a0 :: a1 :: a2 :: f3L p x y z t1 t2 t3 :: l)) : News h₀ L h (a0 :: a1 :: a2 :: l) := consN N dropF2
theorem dropF4 (N : News h₀ L h (a0 :: a1 :: a2 :: a3 :: f3L p x y z t1 t2 t3 :: l)) : News h₀ L h (a0 :: a1 :: a2 :: a3 :: l) := consN N dropF3
theorem dropF5 (N : News h₀ L h (a0 :: a1 :: a2 :: a3 :: a4 :: f3L p x y z t1 t2 t3 :: l)) : News h₀ L h (a0 :: a1 :: a2 :: a3 :: a4 :: l) := consN N dropF4
theorem dropR0 {a b : Addr} (N : News h₀ L h ((p, { cls := .type "tuple", data := .seq #[.ref a, .ref b] }) :: l)) : News h₀ L h l := fun q hq => N q (.tail _ hq)
theorem dropU1 {u v c : Int} (N : News h₀ L h (a0 :: (p, listOf #[.int u t1, .int v t2, .int c t3] 0) :: l)) : News h₀ L h (a0 :: l) := consN N fun N q hq => N q (.tail _ hq)
end
/-- an int goes into the list: its letter, any token -/
theorem compEnd_int {h₀ : Heap} {L I C D : Addr} {m : Str → Option Value} {s₁ : Shared} {oI oC oD : Obj} {S : List (Addr × Obj) → Prop} {rest : Value → List (Addr × Obj) → Prop} {v c : Int} {t : Tok} {h' : Heap} {tk : Nat} {news' : List (Addr × Obj)}
    (F : Fr h₀ L h' m) (N : News h₀ L h' ((I, oI) :: (C, oC) :: (D, oD) :: news')) (off : LCg.Off3 I C D news') (hS : S news') (e : v = c) (r : ∀ t' : Tok, rest (.int c t') news') :
    LCg.CompEnd h₀ L m s₁ I oI C oC D oD S rest (.int v t) { s₁ with heap := h', toks := tk } := compEnd_same F N off hS (by rw [e]; exact r t)
end
end
section
open PySem PySem.W PyProof.Rows
set_option maxRecDepth 100000
section
set_option maxHeartbeats 8000000 in
theorem hh_ok {w : World} {mean : ExcName → Option Value} {mg mb : Str → Option Value} (p : Addr) (n : Nat) (r g b top rest : Int) (t1 t2 t3 tt tr : Tok) (hr : r.natAbs < 2 ^ 40) (hg : g.natAbs < 2 ^ 40) (hb : b.natAbs < 2 ^ 40) (htop : top ≠ 0) (htop0 : 0 < top) (htop1 : top < 2 ^ 40) (sx mi sg g1 b1 both x y z : Int) (R0 G0 B0 H0 S0 V0 R1 G1 B1 H1 S1 V1 D6 A1 A2 A3 P1 P2 P3 : UInt64) (h4x : x.natAbs < 2 ^ 40) (h4y : y.natAbs < 2 ^ 40) (h4z : z.natAbs < 2 ^ 40) (h4sx : sx.natAbs < 2 ^ 40)
   (esx : (rest.fdiv 2).fmod 12 = sx) (emi : rest.fmod 2 = mi) (esg : 1 - 2 * mi = sg) (hsg : sg.natAbs < 2 ^ 1024 - 2 ^ 970) (es1 : (if mi = 0 then g else b) = g1) (es2 : (if mi = 0 then b else g) = b1) (et : turnN both (sx.fmod 6).toNat (r, g1, b1) = (x, y, z)) (hboth : ∀ X Y : Int, (X = r ∨ X = g1 ∨ X = b1) → (r ≤ X ∧ g1 ≤ X ∧ b1 ≤ X) → (Y = r ∨ Y = g1 ∨ Y = b1) → (Y ≤ r ∧ Y ≤ g1 ∧ Y ≤ b1) → X + Y = both)
   (eR0 : sh r top = R0) (eG0 : sh g top = G0) (eB0 : sh b top = B0) (eH0 : hueOf R0 G0 B0 = H0) (eS0 : satV R0 G0 B0 = S0) (eV0 : fmax3 R0 G0 B0 = V0) (z0 : grey R0 G0 B0 = false → ¬ Float64.isZero (fmax3 R0 G0 B0) = true ∧ ¬ Float64.isZero (rg R0 G0 B0) = true)
   (eR1 : sh x top = R1) (eG1 : sh y top = G1) (eB1 : sh z top = B1) (eH1 : hueOf R1 G1 B1 = H1) (eS1 : satV R1 G1 B1 = S1) (eV1 : fmax3 R1 G1 B1 = V1) (z1 : grey R1 G1 B1 = false → ¬ Float64.isZero (fmax3 R1 G1 B1) = true ∧ ¬ Float64.isZero (rg R1 G1 B1) = true)
   (eD : sh sx 6 = D6)
   (eA1 : hsvR (Float64.add (Float64.add c2 D6) (Float64.mul (Float64.ofInt sg) H0)) S0 V0 = A1) (eA2 : hsvG (Float64.add (Float64.add c2 D6) (Float64.mul (Float64.ofInt sg) H0)) S0 V0 = A2) (eA3 : hsvB (Float64.add (Float64.add c2 D6) (Float64.mul (Float64.ofInt sg) H0)) S0 V0 = A3) (zA : feq S0 0 = false → Float64.isFinite (Float64.mul (Float64.add (Float64.add c2 D6) (Float64.mul (Float64.ofInt sg) H0)) c6) = true ∧ (sec (Float64.add (Float64.add c2 D6) (Float64.mul (Float64.ofInt sg) H0))).natAbs < 2 ^ 1024 - 2 ^ 970)
   (eP1 : hsvR (Float64.add c2 (Float64.mul (Float64.ofInt sg) (Float64.sub H1 D6))) S1 V1 = P1) (eP2 : hsvG (Float64.add c2 (Float64.mul (Float64.ofInt sg) (Float64.sub H1 D6))) S1 V1 = P2) (eP3 : hsvB (Float64.add c2 (Float64.mul (Float64.ofInt sg) (Float64.sub H1 D6))) S1 V1 = P3) (zP : feq S1 0 = false → Float64.isFinite (Float64.mul (Float64.add c2 (Float64.mul (Float64.ofInt sg) (Float64.sub H1 D6))) c6) = true ∧ (sec (Float64.add c2 (Float64.mul (Float64.ofInt sg) (Float64.sub H1 D6)))).natAbs < 2 ^ 1024 - 2 ^ 970)
   (iA1 : Is A1 x top) (iA2 : Is A2 y top) (iA3 : Is A3 z top) (iP1 : Is P1 r top) (iP2 : Is P2 g top) (iP3 : Is P3 b top) :
   ConL 16 w mean mg mb 94 [.ref p, .int top tt, .int rest tr] [(p, in3 n r g b t1 t2 t3)] (RetS x y z top) := by
  k_with_none
  k_with "omega" => (with_reducible assumption)
  k_with "ktr_room" => first | exact rm1 (by with_reducible assumption) (by exact rfl) | exact rm0 hd
  k_with "ktr_units" => exact rm1 (by with_reducible assumption) (by exact rfl)
  k_with "size_fits" => exact szle (by exact rfl)
  k_with "k_room" => ktr_room
  k_with "k_ne" => (refine neN ?_; (try dsimp only); first | (with_reducible assumption) | (with_reducible exact Ne.symm (by assumption)) | (with_reducible exact Nat.ne_of_lt (by assumption)) | (with_reducible exact Nat.ne_of_gt (by assumption)) | (with_reducible exact Nat.ne_of_lt (ltAll (by assumption) (by k_dflt k_mem))) | (with_reducible exact Nat.ne_of_gt (ltAll (by assumption) (by k_dflt k_mem))) | (with_reducible exact Nat.ne_of_lt (ltAllS (by assumption) (by k_dflt k_mem))) | (with_reducible exact Nat.ne_of_gt (ltAllS (by assumption) (by k_dflt k_mem))) | (with_reducible exact Nat.ne_of_gt (ltAllSS (by assumption) (by k_dflt k_mem))) | (with_reducible exact Nat.ne_of_lt (ltAllSS (by assumption) (by k_dflt k_mem))) | (with_reducible exact Nat.ne_of_gt (ltAllSSS (by assumption) (by k_dflt k_mem))) | (with_reducible exact Nat.ne_of_lt (ltAllSSS (by assumption) (by k_dflt k_mem))) | (with_reducible exact Nat.ne_of_lt (ltVia (by assumption) (by assumption) (by k_dflt k_mem))) | (with_reducible exact Nat.ne_of_gt (ltVia (by assumption) (by assumption) (by k_dflt k_mem))) | (with_reducible exact off1 (by assumption) (by k_dflt k_mem)) | (with_reducible exact Ne.symm (off1 (by assumption) (by k_dflt k_mem))) | (with_reducible exact offI (by assumption) (by k_dflt k_mem)) | (with_reducible exact offC (by assumption) (by k_dflt k_mem)) | (with_reducible exact offD (by assumption) (by k_dflt k_mem)) | (with_reducible exact Ne.symm (offI (by assumption) (by k_dflt k_mem))) | (with_reducible exact Ne.symm (offC (by assumption) (by k_dflt k_mem))) | (with_reducible exact Ne.symm (offD (by assumption) (by k_dflt k_mem))))
  k_with "k_lt" => skip
  k_with "k_all" => (with_reducible exact neAll (by assumption))
  k_with "execs cons" => (k_here; (with_reducible show wpAny _ _ _ _ _ (Shared.mk _ _ _ (HAdd.hAdd _ _) _)); refine genTok ?_; intro tk')
  k_with "execs nil" => (k_here; (with_reducible show wpAny _ _ _ _ _ (Shared.mk _ _ _ (HAdd.hAdd _ _) _)); refine genTok ?_; intro tk')
  k_with "execs cons" => (k_here; (rename News _ _ _ _ => N9); dsimp only at N9; walk_at "execs cons")
  k_with "execs cons" => (k_here; (rename Fr _ _ _ _ => F9); dsimp only at F9; walk_at "execs cons")
  k_with "k_mem" => (first | (with_reducible assumption) | exact List.Mem.head _ | (refine' memT ?_; k_mem))
  k_with "execs cons" => (k_here; (with_reducible rename (Fr _ _ _ (fun y => ite (y = Str.ofString "told") _ _)) => F8); (with_reducible rename (News _ _ _ (_ :: _)) => N9); (have g9 := genOn); refine genNews N9 ?_; clear N9; intro R9 s8 N'; (try have n9 := s8 _ (List.Mem.head _)); (try have n9 := s8 _ (List.Mem.tail _ (List.Mem.head _))); (try have n9 := s8 _ (List.Mem.tail _ (List.Mem.tail _ (List.Mem.head _)))); (try have n9 := s8 _ (List.Mem.tail _ (List.Mem.tail _ (List.Mem.tail _ (List.Mem.head _))))); (try have n9 := s8 _ (List.Mem.tail _ (List.Mem.tail _ (List.Mem.tail _ (List.Mem.tail _ (List.Mem.head _)))))); (try have n9 := s8 _ (List.Mem.tail _ (List.Mem.tail _ (List.Mem.tail _ (List.Mem.tail _ (List.Mem.tail _ (List.Mem.head _))))))); (try have n9 := s8 _ (List.Mem.tail _ (List.Mem.tail _ (List.Mem.tail _ (List.Mem.tail _ (List.Mem.tail _ (List.Mem.tail _ (List.Mem.head _)))))))); (try have n9 := s8 _ (List.Mem.tail _ (List.Mem.tail _ (List.Mem.tail _ (List.Mem.tail _ (List.Mem.tail _ (List.Mem.tail _ (List.Mem.tail _ (List.Mem.head _))))))))); (try have n9 := s8 _ (List.Mem.tail _ (List.Mem.tail _ (List.Mem.tail _ (List.Mem.tail _ (List.Mem.tail _ (List.Mem.tail _ (List.Mem.tail _ (List.Mem.tail _ (List.Mem.head _)))))))))); (try have n9 := s8 _ (List.Mem.tail _ (List.Mem.tail _ (List.Mem.tail _ (List.Mem.tail _ (List.Mem.tail _ (List.Mem.tail _ (List.Mem.tail _ (List.Mem.tail _ (List.Mem.tail _ (List.Mem.head _))))))))))); (try have n9 := s8 _ (List.Mem.tail _ (List.Mem.tail _ (List.Mem.tail _ (List.Mem.tail _ (List.Mem.tail _ (List.Mem.tail _ (List.Mem.tail _ (List.Mem.tail _ (List.Mem.tail _ (List.Mem.tail _ (List.Mem.head _)))))))))))); (try have n9 := s8 _ (List.Mem.tail _ (List.Mem.tail _ (List.Mem.tail _ (List.Mem.tail _ (List.Mem.tail _ (List.Mem.tail _ (List.Mem.tail _ (List.Mem.tail _ (List.Mem.tail _ (List.Mem.tail _ (List.Mem.tail _ (List.Mem.head _))))))))))))); (try have n9 := s8 _ (List.Mem.tail _ (List.Mem.tail _ (List.Mem.tail _ (List.Mem.tail _ (List.Mem.tail _ (List.Mem.tail _ (List.Mem.tail _ (List.Mem.tail _ (List.Mem.tail _ (List.Mem.tail _ (List.Mem.tail _ (List.Mem.tail _ (List.Mem.head _)))))))))))))); (try have n9 := s8 _ (List.Mem.tail _ (List.Mem.tail _ (List.Mem.tail _ (List.Mem.tail _ (List.Mem.tail _ (List.Mem.tail _ (List.Mem.tail _ (List.Mem.tail _ (List.Mem.tail _ (List.Mem.tail _ (List.Mem.tail _ (List.Mem.tail _ (List.Mem.tail _ (List.Mem.head _))))))))))))))); clear s8; walk_at "execs cons")
  k_with "execs cons" => (k_here; (with_reducible rename GenOn => g9); (with_reducible rename (News _ _ _ (_ :: _)) => N9); refine genNews N9 ?_; clear N9; intro R8 s8 N'; (repeat ((with_reducible rename (_ ∈ R9) => m9); (first | replace m9 := memS1 s8 m9 | replace m9 := memS2 s8 m9 | replace m9 := memS3 s8 m9 | replace m9 := memS4 s8 m9); (with_reducible rename (_ ∈ R8) => n9))); (try have n9 := s8 _ (List.Mem.head _)); (try have n9 := s8 _ (List.Mem.tail _ (List.Mem.head _))); (try have n9 := s8 _ (List.Mem.tail _ (List.Mem.tail _ (List.Mem.head _)))); (try have n9 := s8 _ (List.Mem.tail _ (List.Mem.tail _ (List.Mem.tail _ (List.Mem.head _))))); (try have n9 := s8 _ (List.Mem.tail _ (List.Mem.tail _ (List.Mem.tail _ (List.Mem.tail _ (List.Mem.head _)))))); clear s8; (rename List (Addr × Obj) => R9); walk_at "execs cons")
  k_with "binaryOp Add int int" => (k_here; (with_reducible refine addI (by assumption) ?_); intro t9)
  k_with "binaryOp Sub int int" => (k_here; (with_reducible refine subI (by assumption) ?_); intro t9)
  k_with "binaryOp Mod int int" => (k_here; (with_reducible refine modI (by decide) (by assumption) ?_); intro t9)
  k_with "binaryOp Mult int int" => (k_here; (with_reducible refine mulI (by assumption) (by first | exact mok (.inl (by with_reducible assumption)) | exact mok (.inr (by with_reducible assumption)) | exact mokl (by exact rfl) | mul_fits) ?_); intro t9)
  k_with "binaryOp Mult int float" => (k_here; (with_reducible refine mulIF (by assumption) (by with_unfolding_all rfl) ?_); intro t9)
  k_with "binaryOp Sub int float" => (k_here; (with_reducible refine subIF (by assumption) (by with_unfolding_all rfl) ?_); intro t9)
  k_with "k_ne" => (refine neN ?_; (try dsimp only); first | (with_reducible assumption) | (with_reducible exact Ne.symm (by assumption)) | (with_reducible exact Nat.ne_of_lt (by assumption)) | (with_reducible exact Nat.ne_of_gt (by assumption)) | (with_reducible exact Nat.ne_of_lt (ltAll (by assumption) (by k_dflt k_mem))) | (with_reducible exact Nat.ne_of_gt (ltAll (by assumption) (by k_dflt k_mem))) | (with_reducible exact Nat.ne_of_lt (ltAllS (by assumption) (by k_dflt k_mem))) | (with_reducible exact Nat.ne_of_gt (ltAllS (by assumption) (by k_dflt k_mem))) | (with_reducible exact Nat.ne_of_gt (ltAllSS (by assumption) (by k_dflt k_mem))) | (with_reducible exact Nat.ne_of_lt (ltAllSS (by assumption) (by k_dflt k_mem))) | (with_reducible exact Nat.ne_of_gt (ltAllSSS (by assumption) (by k_dflt k_mem))) | (with_reducible exact Nat.ne_of_lt (ltAllSSS (by assumption) (by k_dflt k_mem))) | (with_reducible exact Nat.ne_of_lt (ltVia (by assumption) (by assumption) (by k_dflt k_mem))) | (with_reducible exact Nat.ne_of_gt (ltVia (by assumption) (by assumption) (by k_dflt k_mem))) | (with_reducible exact neqAll (by assumption) (by k_dflt k_mem)) | (with_reducible exact Ne.symm (neqAll (by assumption) (by k_dflt k_mem))) | (with_reducible exact off1 (by assumption) (by k_dflt k_mem)) | (with_reducible exact Ne.symm (off1 (by assumption) (by k_dflt k_mem))) | (with_reducible exact offI (by assumption) (by k_dflt k_mem)) | (with_reducible exact offC (by assumption) (by k_dflt k_mem)) | (with_reducible exact offD (by assumption) (by k_dflt k_mem)) | (with_reducible exact Ne.symm (offI (by assumption) (by k_dflt k_mem))) | (with_reducible exact Ne.symm (offC (by assumption) (by k_dflt k_mem))) | (with_reducible exact Ne.symm (offD (by assumption) (by k_dflt k_mem))))
  k_with "call ref" => (k_here; k_dflt (show wpAny _ _ (call (Value.ref 68) _) _ _ _); k_dflt (refine' shares_p (by k_asm) (by k_asm) (by k_mem) (by with_reducible assumption) (by with_reducible assumption) (by with_reducible assumption) (by with_reducible assumption) (by with_reducible assumption) (by with_reducible assumption) (by with_reducible assumption) (by k_asm) (by k_asm) (by k_asm) (by first | exact rfl | assumption) (by ktr_room) (by ktr_units) _; k_whole); intro p' _ _ _ h' _ F' N' l1; (try dsimp only); (try k_fold))
  k_with "call ref" => (k_here; k_dflt (show wpAny _ _ (call (Value.ref 73) _) _ _ _); k_dflt (refine' is_w (by k_asm) (by k_asm) (by k_mem) (by k_mem) (by with_reducible assumption) (by with_reducible assumption) (by with_reducible assumption) (by with_reducible assumption) (by with_reducible assumption) (by with_reducible assumption) (by with_reducible assumption) (by with_reducible assumption) (by k_asm) (by k_asm) (by k_asm) (by first | exact rfl | assumption) (by ktr_room) (by ktr_units) _; k_whole); intro h' _ F' N'; (try dsimp only); (try k_fold))
  k_with "call ref" => (k_here; k_dflt (show wpAny _ _ (call (Value.ref 87) _) _ _ _); k_dflt (refine' seen_w (by k_asm) (by k_asm) (by k_mem) (by with_reducible assumption) (by with_reducible assumption) (by k_asm) (by k_asm) (by k_asm) (by first | exact rfl | assumption) (by ktr_room) (by ktr_units) _; k_whole); intro p' _ _ _ _ h' _ F' N' l1; (try dsimp only); (try k_fold))
  k_with "call ref" => (k_here; k_dflt (show wpAny _ _ (call (Value.ref 80) _) _ _ _); k_dflt (refine' turned_w (by k_asm) (by k_asm) (by k_mem) (by with_reducible assumption) (by with_reducible assumption) (by k_asm) (by k_asm) (by k_asm) (by first | exact rfl | assumption) (by ktr_room) (by ktr_units) _; k_whole); intro p' _ _ _ _ h' _ F' N' l1; (try dsimp only); (try k_fold))
  k_with "call ref" => (k_here; k_dflt (show wpAny _ _ (call (Value.ref 56) _) _ _ _); k_dflt (refine' hsv_k (by with_reducible assumption) (by with_reducible assumption) (by with_reducible assumption) (by with_reducible assumption) _ _ _ _ _ _ _ _ _ _ _ _ _ _ _ _ _ _ (by k_asm) (by k_asm) (by k_asm) (by k_asm) (by k_asm) (by first | exact rfl | assumption) (by ktr_room) (by ktr_units) _; k_whole); intro p' _ _ _ h' _ F' N' l1; (try dsimp only); (try k_fold))
  k_with "call ref" => (k_here; k_dflt (show wpAny _ _ (call (Value.ref 35) _) _ _ _); k_dflt (refine' hls_k (by with_reducible assumption) (by with_reducible assumption) (by with_reducible assumption) (by with_reducible assumption) _ _ _ _ _ _ _ _ _ _ _ _ _ _ _ _ _ _ (by k_asm) (by k_asm) (by k_asm) (by k_asm) (by k_asm) (by first | exact rfl | assumption) (by ktr_room) (by ktr_units) _; k_whole); intro p' _ _ _ h' _ F' N' l1; (try dsimp only); (try k_fold))
  k_with "call ref" => (k_here; k_dflt (show wpAny _ _ (call (Value.ref 21) _) _ _ _); k_dflt (refine' yiq_k (by with_reducible assumption) (by with_reducible assumption) (by with_reducible assumption) _ _ _ _ _ _ _ _ _ _ _ _ _ _ _ _ _ _ (by k_asm) (by k_asm) (by k_asm) (by k_asm) (by k_asm) (by first | exact rfl | assumption) (by ktr_room) (by ktr_units) _; k_whole); intro p' _ _ _ h' _ F' N' l1; (try dsimp only); (try k_fold))
  k_with "call ref" => (k_here; k_dflt (show wpAny _ _ (call (Value.ref 63) _) _ _ _); k_dflt (refine' hr_k (by with_reducible assumption) (by with_reducible assumption) (by with_reducible assumption) (by with_reducible assumption) _ _ _ _ _ _ _ _ _ _ _ _ _ _ _ _ _ _ (by k_asm) (by k_asm) (by k_asm) (by k_asm) (by k_asm) (by first | exact rfl | assumption) (by ktr_room) (by ktr_units) _; k_whole); intro p' _ _ _ h' _ F' N' l1; (try dsimp only); (try k_fold))
  k_with "call ref" => (k_here; k_dflt (show wpAny _ _ (call (Value.ref 42) _) _ _ _); k_dflt (refine' hlr_k (by with_reducible assumption) (by with_reducible assumption) (by with_reducible assumption) _ _ _ _ _ _ _ _ _ _ _ _ _ _ _ _ _ _ (by k_asm) (by k_asm) (by k_asm) (by k_asm) (by k_asm) (by first | exact rfl | assumption) (by ktr_room) (by ktr_units) _; k_whole); intro p' _ _ _ h' _ F' N' l1; (try dsimp only); (try k_fold))
  k_with "call ref" => (k_here; k_dflt (show wpAny _ _ (call (Value.ref 28) _) _ _ _); k_dflt (refine' yr_k (by with_reducible assumption) (by with_reducible assumption) (by with_reducible assumption) _ _ _ _ _ _ _ _ _ _ _ _ _ _ _ _ _ _ (by k_asm) (by k_asm) (by k_asm) (by k_asm) (by k_asm) (by first | exact rfl | assumption) (by ktr_room) (by ktr_units) _; k_whole); intro p' _ _ _ h' _ F' N' l1; (try dsimp only); (try k_fold))
  k_with "binaryOp Div int int" => (k_dflt (refine div_sh rfl (by first | (with_reducible assumption) | decide | omega) (by first | (with_reducible assumption) | decide | omega) (by with_reducible assumption) ?_))
  intro dp un gd cn cs a ccd cl outer A₀ base h₀ L m s Q E B' F' X' N' T' hk hd hu hret
  have N0 := N'
  w_on
  revert X'; k_fill; intro X'
  refine wpAny_call ?_
  k_dflt (refine' code_defCG ?k1 ?k2 ?k3 ?k4 ?k5 ?kA ?kF ?kK ?k6 ?k7 ?k8 ?k9 ?kB ?kD ?_ ?c2 ?c3 ?c4; (case kA => exact rfl); (case kF => exact rfl); (case kK => assumption); (case k1 => k_asm); (case k2 => k_asm); (case k3 => k_asm); (case k4 => k_asm); (case k5 => k_asm); (case k6 => k_is); (case k7 => k_is); (case k8 => ktr_room); (case k9 => first | exact BindsTo.of_eq rfl | exact binds_K (by k_in) rfl (by k_is) rfl rfl rfl | fail "k_enter: no rule for these arguments"); (case kB => exact rfl); (case kD => decide +kernel); (case c2 => exact rfl); (case c3 => exact rfl); (case c4 => exact rfl); k_whole; intro g' L' h' tk' cells' FG' F' N' Y' B' X' T' l1 GS hL; (try k_lt l1); (have hE' := cells_nil Y'; subst hE'; clear Y'); (try simp only [List.cons_append, List.nil_append] at N'); (try dsimp only); (try k_lift B'); (try k_fold))
  replace F' : Fr g' L' h' (fun y => if y = Str.ofString "rest" then some (.int rest tr) else if y = Str.ofString "top" then some (.int top tt) else if y = Str.ofString "colour" then some (.ref p) else none) := F'
  k_steps
  all_goals first | exact absurd (by assumption) (Nat.not_le.mpr hsg) | skip
  all_goals with_reducible refine' retS_use hret N0 GS ?zf ?zkn ?zsub ?zhq ?zhp ?zn ?zhq' ?zhp' ?za ?zb ?zc
  case zf => assumption
  case zkn => assumption
  case zsub => exact fun q hq => by rw [List.mem_singleton.mp hq]; k_mem
  case zhq => k_mem
  case zhp => k_mem
  case zn => assumption
  case zhq' => k_mem
  case zhp' => k_mem
  case za => exact fun e he => by rw [List.mem_singleton.mp he]; k_ne
  case zb => exact fun e he => by rw [List.mem_singleton.mp he]; k_ne
  case zc => k_ne
end
end
section
set_option maxRecDepth 100000
section
open PySem PySem.W PySem.Calls PyProof.Rows PySem.Flt PySem.Float64
theorem six2 : 6 * (((2 : Int) : Int) : Rat) / 6 = 2 := by rw [i2]; decide +kernel
theorem six_sg2 (s y k : Rat) : (s * y + k + 6 * ((2 : Int) : Rat)) / 6 = 2 + k / 6 + s * (y / 6) := by rw [six_add, six_sg, six2, Rat.add_comm _ 2, Rat.add_assoc]
theorem six_sgs2 (s y k : Rat) : (s * (y + -k) + 6 * ((2 : Int) : Rat)) / 6 = 2 + s * (y / 6 - k / 6) := by rw [six_add, six_sgs, six2, Rat.add_comm]
theorem hh_he {κ u ρ : Rat} (u0 : 0 ≤ u) (r1 : ρ ≤ 1) (h : ρ * (54 * κ) ≤ 54 * u) : ρ * (6 * (9 * κ + 5 * u)) ≤ 600 * u := by
  have := Rat.mul_le_mul_of_nonneg_right r1 u0
  grind
theorem hh_math {r g b top M m x y z k sg : Int} (C : Col r g b top M m) (C' : Col x y z top M m) (hs : sg = 1 ∨ sg = -1) (k2 : 0 ≤ k) (k3 : k ≤ 11)
    (R1 : RepC (x, y, z) m (M - m) ((sg : Rat) * ((hn r g b M (M - m) : Rat) / ((M - m : Int) : Rat)) + (k : Rat) + 6 * ((2 : Int) : Rat))) (R2 : RepC (r, g, b) m (M - m) ((sg : Rat) * ((hn x y z M (M - m) : Rat) / ((M - m : Int) : Rat) + -(k : Rat)) + 6 * ((2 : Int) : Rat))) :
    ((Is (hsvR (add (add c2 (sh k 6)) (mul (ofInt sg) (hueOf (sh r top) (sh g top) (sh b top)))) (satV (sh r top) (sh g top) (sh b top)) (sh M top)) x top ∧ Is (hsvG (add (add c2 (sh k 6)) (mul (ofInt sg) (hueOf (sh r top) (sh g top) (sh b top)))) (satV (sh r top) (sh g top) (sh b top)) (sh M top)) y top ∧ Is (hsvB (add (add c2 (sh k 6)) (mul (ofInt sg) (hueOf (sh r top) (sh g top) (sh b top)))) (satV (sh r top) (sh g top) (sh b top)) (sh M top)) z top) ∧
      (Is (hsvR (add c2 (mul (ofInt sg) (sub (hueOf (sh x top) (sh y top) (sh z top)) (sh k 6)))) (satV (sh x top) (sh y top) (sh z top)) (sh M top)) r top ∧ Is (hsvG (add c2 (mul (ofInt sg) (sub (hueOf (sh x top) (sh y top) (sh z top)) (sh k 6)))) (satV (sh x top) (sh y top) (sh z top)) (sh M top)) g top ∧ Is (hsvB (add c2 (mul (ofInt sg) (sub (hueOf (sh x top) (sh y top) (sh z top)) (sh k 6)))) (satV (sh x top) (sh y top) (sh z top)) (sh M top)) b top)) ∧
    (isFinite (mul (add (add c2 (sh k 6)) (mul (ofInt sg) (hueOf (sh r top) (sh g top) (sh b top)))) c6) = true ∧ (sec (add (add c2 (sh k 6)) (mul (ofInt sg) (hueOf (sh r top) (sh g top) (sh b top))))).natAbs < 2 ^ 1024 - 2 ^ 970) ∧ (isFinite (mul (add c2 (mul (ofInt sg) (sub (hueOf (sh x top) (sh y top) (sh z top)) (sh k 6)))) c6) = true ∧ (sec (add c2 (mul (ofInt sg) (sub (hueOf (sh x top) (sh y top) (sh z top)) (sh k 6))))).natAbs < 2 ^ 1024 - 2 ^ 970) := by
  have hm0 := C.M0
  have k0 : -12 ≤ k := Int.le_trans (by decide) k2
  have k1 : k ≤ 12 := Int.le_trans k3 (by decide)
  have hD := six_ap k0 k1
  have hu := C.hue_ap.1
  have hu' := C'.hue_ap.1
  have sa := C.satV_ap
  have sa' := C'.satV_ap
  have va := C.sM
  have hb := C.hb
  have hb' := C'.hb
  have u0 := uu0
  have e1 := k9 C.kb.2
  have A := hueA hu hb.1 hb.2 e1 hD k0 k1 hs
  have P := hueP2 hu' hb'.1 hb'.2 e1 hD k0 k1 hs
  have Ab := (hue_b hu hb.1 hb.2 e1 hD k0 k1 hs k2 k3).1
  have Pb := (hue_b hu' hb'.1 hb'.2 e1 hD k0 k1 hs k2 k3).2
  have fA := sec_fit A.fin Ab.1 Ab.2
  have fP := sec_fit P.fin Pb.1 Pb.2
  rw [← six_sg2] at A
  rw [← six_sgs2] at P
  have rs1 : ((M - m : Int) : Rat) / top ≤ 1 := part_le (by omega) (by omega)
  have he := hh_he u0 rs1 (C.se 54 (by decide))
  have ve := Rat.le_trans C.ve u6
  exact ⟨⟨hsv_out C' R1 Ab.1 Ab.2 sa.2.1 (le_101 sa.2.2) va.2.1 va.2.2 va.1 sa.1 A u16 ve he, hsv_out C R2 Pb.1 Pb.2 sa'.2.1 (le_101 sa'.2.2) va.2.1 va.2.2 va.1 sa'.1 P u16 ve he⟩, fA, fP⟩
theorem hh_stepM {w : World} {mean : ExcName → Option Value} {mg mb : Str → Option Value} (p : Addr) (n : Nat) (r g b top rest : Int) (t1 t2 t3 tt tr : Tok) (hr : 0 ≤ r ∧ r ≤ top) (hg : 0 ≤ g ∧ g ≤ top) (hb : 0 ≤ b ∧ b ≤ top) (h0 : 0 < top) (h1 : top ≤ 4096)
    (M m : Int) (hM : max (max r g) b = M) (hm : min (min r g) b = m) : ConL 16 w mean mg mb 94 [.ref p, .int top tt, .int rest tr] [(p, in3 n r g b t1 t2 t3)] StepRet := by
  have C : Col r g b top M m := ⟨⟨h0, Int.le_trans h1 (by decide)⟩, hr.1, hr.2, hg.1, hg.2, hb.1, hb.2, hM, hm⟩
  obtain ⟨g1, b1, es1, es2, hsg, hM1, hm1, mr1, mr2⟩ := mir_lem r g b (rest.fmod 2) M m (fm2 rest) hM hm
  have k1 := fm_b (rest.fdiv 2) (n := 12) (by decide)
  have k2 : (rest.fdiv 2).fmod 12 ≤ 11 := Int.le_of_lt_add_one k1.2
  obtain ⟨x, y, z, et, C', tr1, tr2⟩ := turn_lem (c := (r, g1, b1)) C.d hM1 hm1 C.M0.2.2.1 C.M0.2.1 ((rest.fdiv 2).fmod 12)
  have I := hh_math C C' hsg k1.1 k2 (Rep.per 2 (tr1 _ (mr1 _ C.rep))) (Rep.per 2 (mr2 _ (tr2 _ C'.rep)))
  have t4 := C.d.q
  exact step_of ⟨C'.r0, C'.r1⟩ ⟨C'.g0, C'.g1⟩ ⟨C'.b0, C'.b1⟩ h0 t4
    (hh_ok p n r g b top rest t1 t2 t3 tt tr (small40 hr.1 hr.2 t4) (small40 hg.1 hg.2 t4) (small40 hb.1 hb.2 t4) (Int.ne_of_gt h0) h0 (lt40 t4) _ _ _ g1 b1 _ x y z _ _ _ _ _ _ _ _ _ _ _ _ _ _ _ _ _ _ _ 
      (small40 C'.r0 C'.r1 t4) (small40 C'.g0 C'.g1 t4) (small40 C'.b0 C'.b1 t4) (six40 (Int.le_trans (by decide) k1.1) (Int.le_of_lt k1.2)) rfl rfl rfl (fit_sg hsg) es1 es2 et (both_of hM1 hm1) rfl rfl rfl rfl rfl C.max C.zV rfl rfl rfl rfl rfl C'.max C'.zV rfl
      rfl rfl rfl (fun _ => I.2.1) rfl rfl rfl (fun _ => I.2.2) I.1.1.1 I.1.1.2.1 I.1.1.2.2 I.1.2.1 I.1.2.2.1 I.1.2.2.2)
theorem hh_step {w : World} {mean : ExcName → Option Value} {mg mb : Str → Option Value} : StepC w mean mg mb 94 := fun p n r g b top rest t1 t2 t3 tt tr hr hg hb h0 h1 => hh_stepM p n r g b top rest t1 t2 t3 tt tr hr hg hb h0 h1 _ _ rfl rfl
end
end
section
section
open PySem PySem.Flt PySem.Float64
theorem decode_abs {x : UInt64} {a : Bool} {m : Nat} {e : Int} (h : decode x = .fin a m e) : decode (abs x) = .fin false m e := by
  have hn : ¬ isNaN x = true := by unfold isNaN; rw [h]; simp
  have hx : x.toNat < 2 ^ 64 := x.toNat_lt
  have ht : (abs x).toNat = x.toNat % 2 ^ 63 := by
    unfold abs
    rw [if_neg hn]
    unfold pack
    simp only [Bool.false_eq_true, if_false, Nat.zero_add]
    rw [Nat.toUInt64, UInt64.toNat_ofNat']
    exact Nat.mod_eq_of_lt (Nat.lt_trans (Nat.mod_lt _ (by decide)) (by decide))
  unfold decode at h ⊢
  rw [ht]
  generalize x.toNat = n at *
  have e1 : n % 2 ^ 63 / 2 ^ 52 % 2048 = n / 2 ^ 52 % 2048 := by
    rw [show 2 ^ 63 = 2 ^ 52 * 2048 by decide, Nat.mod_mul_right_div_self, Nat.mod_mod]
  have e2 : n % 2 ^ 63 % 2 ^ 52 = n % 2 ^ 52 := Nat.mod_mod_of_dvd n (by decide)
  have e3 : n % 2 ^ 63 / 2 ^ 63 = 0 := Nat.div_eq_of_lt (Nat.mod_lt _ (by decide))
  simp only [e1, e2, e3] at h ⊢
  split at h
  · split at h <;> cases h
  · rename_i h1
    rw [if_neg h1]
    split at h
    · rename_i h2
      rw [if_pos h2]; cases h; rfl
    · rename_i h2
      rw [if_neg h2]; cases h; rfl
theorem fv_abs {x : UInt64} (h : Fin x) : Fin (abs x) ∧ ((0 ≤ fv x ∧ fv (abs x) = fv x) ∨ (fv x ≤ 0 ∧ fv (abs x) = -fv x)) := by
  obtain ⟨a, m, e, hd⟩ := h
  have hd' := decode_abs hd
  refine ⟨⟨_, _, _, hd'⟩, ?_⟩
  have e1 := val_sgn hd
  have e2 := val_eq hd'
  have e3 := val_natAbs hd
  have hkp := ku_pos
  have n0 : (0 : Rat) ≤ (((val x).natAbs : Int) : Rat) := castR_nn (Int.natCast_nonneg _)
  have p := Rat.mul_nonneg n0 (Rat.le_of_lt hkp)
  have v2 : val (abs x) = ((val x).natAbs : Int) := by rw [e2, e3]; rfl
  unfold fv
  rw [v2]
  cases a
  · left
    have : val x = ((val x).natAbs : Int) := e1
    rw [← this] at p ⊢
    exact ⟨p, rfl⟩
  · right
    have : val x = -((val x).natAbs : Int) := e1
    generalize ((val x).natAbs : Int) = q at *
    rw [this, Rat.intCast_neg]
    constructor <;> grind
theorem abs_ap {x : UInt64} {X Z e : Rat} (h : Ap x X e) (hZ : 0 ≤ Z) (hX : X = Z ∨ X = -Z) : Ap (abs x) Z e := by
  obtain ⟨f, g⟩ := fv_abs h.fin
  have := h.lo; have := h.hi
  rcases g with ⟨a, b⟩ | ⟨a, b⟩ <;> rcases hX with rfl | rfl <;> exact ⟨f, by rw [b]; grind, by rw [b]; grind⟩
/-- the lightness, as it is or turned over -/
theorem over_ap {V : UInt64} {L Z e : Rat} {ov : Int} (hv : Ap V L e) (v0 : 0 ≤ fv V) (v1 : fv V ≤ 1) (e1 : e ≤ 1 / 1000) (ho : ov = 0 ∨ ov = 1) (hZ : 0 ≤ Z) (hL : (ov : Rat) - L = Z ∨ (ov : Rat) - L = -Z) (L0 : -1 ≤ L) (L1 : L ≤ 2) :
    Ap (abs (sub (ofInt ov) V)) Z (e + uu) ∧ 0 ≤ fv (abs (sub (ofInt ov) V)) ∧ fv (abs (sub (ofInt ov) V)) ≤ 1 := by
  have u0 := uu0
  have us := uus
  have hi : Fin (ofInt ov) ∧ fv (ofInt ov) = (ov : Rat) := ofInt_exact (by rcases ho with rfl | rfl <;> decide)
  have ob : 0 ≤ (ov : Rat) ∧ (ov : Rat) ≤ 1 := by
    rcases ho with rfl | rfl
    · exact ⟨by decide, by decide +kernel⟩
    · exact ⟨by decide +kernel, by decide⟩
  have ha : Ap (ofInt ov) (ov : Rat) 0 := ⟨hi.1, by rw [hi.2]; grind, by rw [hi.2]; grind⟩
  have hs := ap_sub (g := e + uu) ha hv (by grind) (by grind) (by grind) (by grind)
  have hr := sub_rnd hi.1 hv.fin (big_of (by rw [hi.2]; grind) (by rw [hi.2]; grind))
  rw [hi.2] at hr
  obtain ⟨m1, m2⟩ := ofInt_exact (i := -1) (by decide)
  have b1 := rnd_le hr fin_c1 (by rw [fv_c1]; grind)
  have b2 := rnd_ge hr m1 (by rw [m2, im1]; grind)
  rw [fv_c1] at b1
  rw [m2, im1] at b2
  obtain ⟨f, g⟩ := fv_abs hs.fin
  refine ⟨abs_ap hs hZ hL, ?_⟩
  rcases g with ⟨a, b⟩ | ⟨a, b⟩ <;> rw [b] <;> constructor <;> grind
end
end
section
set_option maxRecDepth 100000
section
open PySem PySem.W PySem.Calls PyProof.Rows
open Builtin.SmallTypes (nextOf)
/-- an iterator over a list or a tuple, at place `k` -/
noncomputable def ItAt (h : Heap) (i l : Addr) (k : Nat) (xs : Array Value) : Prop := (h.IsListIter i l k ∧ h.IsList l xs) ∨ (h.IsTupleIter i l k ∧ h.IsTuple l xs)
theorem ItAt.keep {h h' : Heap} {i l : Addr} {k : Nat} {xs : Array Value} (x : ItAt h i l k xs) (hi : ∀ o, h.get? i = some o → h'.get? i = some o) (hl : ∀ o, h.get? l = some o → h'.get? l = some o) : ItAt h' i l k xs := by
  rcases x with ⟨⟨o, a, b⟩, ⟨o', a', b'⟩⟩ | ⟨⟨o, a, b⟩, ⟨o', a', b'⟩⟩
  · exact .inl ⟨⟨o, hi _ a, b⟩, ⟨o', hl _ a', b'⟩⟩
  · exact .inr ⟨⟨o, hi _ a, b⟩, ⟨o', hl _ a', b'⟩⟩
theorem ItAt.some {h : Heap} {i l : Addr} {k : Nat} {xs : Array Value} (x : ItAt h i l k xs) : (∃ o, h.get? i = some o) ∧ ∃ o, h.get? l = some o := by
  rcases x with ⟨⟨o, a, _⟩, ⟨o', a', _⟩⟩ | ⟨⟨o, a, _⟩, ⟨o', a', _⟩⟩ <;> exact ⟨⟨_, a⟩, ⟨_, a'⟩⟩
section
variable {prog : Program} {w : World} {A : Around} {E : Value → Shared → Prop} {s : Shared}
theorem alive {a : Addr} {Q : Option Obj → Shared → Prop} (h : Q (s.heap.get? a) s) : wpAny (model prog w) A (loadIfAlive a) Q E s := fun _ _ _ => h
theorem nextTup_item {i l : Addr} {k : Nat} {xs : Array Value} {x : Value} {Q : Value → Shared → Prop} (hit : s.heap.IsTupleIter i l k) (hl : s.heap.IsTuple l xs) (hx : xs[k]? = some x)
    (hQ : ∀ h', h'.IsTupleIter i l (k + 1) → Heap.SameBut i s.heap h' → Q x { s with heap := h' }) : wpAny (model prog w) A (nextOf (.ref i)) Q E s := by
  obtain ⟨o, ho, hc, hd⟩ := id hit
  obtain ⟨ol, hol, _, nl, hdl⟩ := hl
  refine wpAny_bind (wpAny_callSpecial?_slot (name := Str.ofString "__next__") hit.typeIs F.slot_tuple_iterator_next
    (wpAny_call_entry F.slot_tuple_iterator_next hit.typeIs F.entry_tuple_iterator_next ?_ (F.args_tuple_iterator_next_1 _)))
  show wpAny _ _ (field (.ref i) 0 >>= _) _ _ s
  refine wpAny_bind (wpAny_field ho hd (x := .ref l) rfl ?_)
  show wpAny _ _ (if (Value.ref l == Value.none) = true then _ else _) _ _ s
  rw [if_neg (show ¬ ((Value.ref l == Value.none) = true) from Bool.false_ne_true)]
  show wpAny _ _ (field (.ref i) 1 >>= _) _ _ s
  refine wpAny_bind (wpAny_field ho hd (x := .int k 0) rfl ?_)
  show wpAny _ _ (seqItems? (.ref l) >>= _) _ _ s
  refine wpAny_bind (wpAny_seqItems hol hdl ?_)
  simp only [Int.toNat_natCast, hx]
  refine wpAny_bind (wpAny_setField ho hd (by simp) (wpAny_pure ⟨x, rfl, wpAny_pure (hQ _ ?_ (Heap.SameBut.update ..))⟩))
  exact ⟨_, Heap.get?_update_self _ ho (Obj.isFreed_of_fields (Obj.data_mapFields hd _)), (Obj.cls_mapFields ..).trans hc, by
    rw [Obj.data_mapFields hd]; simp [rawInt]⟩
theorem nextTup_end {i l : Addr} {k : Nat} {xs : Array Value} {Q : Value → Shared → Prop} (hh : A.handled = none) (hit : s.heap.IsTupleIter i l k) (hl : s.heap.IsTuple l xs) (hx : xs[k]? = none)
    (hE : ∀ h' e, Heap.ExtBut i s.heap h' → (∃ o, h'.get? e = some o ∧ o.cls = .type "StopIteration") → E (.ref e) { s with heap := h' }) : wpAny (model prog w) A (nextOf (.ref i)) Q E s := by
  obtain ⟨o, ho, hc, hd⟩ := id hit
  obtain ⟨ol, hol, _, nl, hdl⟩ := hl
  refine wpAny_bind (wpAny_callSpecial?_slot (name := Str.ofString "__next__") hit.typeIs F.slot_tuple_iterator_next
    (wpAny_call_entry F.slot_tuple_iterator_next hit.typeIs F.entry_tuple_iterator_next ?_ (F.args_tuple_iterator_next_1 _)))
  show wpAny _ _ (field (.ref i) 0 >>= _) _ _ s
  refine wpAny_bind (wpAny_field ho hd (x := .ref l) rfl ?_)
  show wpAny _ _ (if (Value.ref l == Value.none) = true then _ else _) _ _ s
  rw [if_neg (show ¬ ((Value.ref l == Value.none) = true) from Bool.false_ne_true)]
  show wpAny _ _ (field (.ref i) 1 >>= _) _ _ s
  refine wpAny_bind (wpAny_field ho hd (x := .int k 0) rfl ?_)
  show wpAny _ _ (seqItems? (.ref l) >>= _) _ _ s
  refine wpAny_bind (wpAny_seqItems hol hdl ?_)
  simp only [Int.toNat_natCast, hx]
  refine wpAny_bind (wpAny_rule (wpAny_bind (wpAny_setField ho hd (by simp) ?_)))
  show wpAny _ _ (newExc (.type "StopIteration") [] >>= _) _ _ _
  refine wpAny_bind ?_
  simp only [newExc, newTuple]
  refine wpAny_bind (wpAny_newObj_type ?_ (by size_fits))
  refine wpAny_bind (m := firstArgMember _ _) (wpAny_of_eq (a := Value.none) (by first | rfl | (simp only [firstArgMember]; rfl)) ?_)
  refine wpAny_newObj_type ?_ (by size_fits)
  simp only [raiseNew]
  refine wpAny_bind (wpAny_handled ?_)
  first | rw [show A.in1.handled = none from hh] | rw [hh]
  refine wpAny_bind (wpAny_pure (wpAny_throw ?_))
  exact hE _ _ (((Heap.SameBut.update ..).extBut.push _).push _) ⟨_, Heap.get?_push_size _ rfl, rfl⟩
theorem nextIt_item {i l : Addr} {k : Nat} {xs : Array Value} {x : Value} {Q : Value → Shared → Prop} (hne : l ≠ i) (h : ItAt s.heap i l k xs) (hx : xs[k]? = some x)
    (hQ : ∀ h', ItAt h' i l (k + 1) xs → Heap.SameBut i s.heap h' → Q x { s with heap := h' }) : wpAny (model prog w) A (nextOf (.ref i)) Q E s := by
  rcases h with ⟨a, b⟩ | ⟨a, b⟩
  · exact wpAny_nextOf_list_item a b hx fun h' c d => hQ h' (.inl ⟨c, b.extBut d.extBut hne⟩) d
  · exact nextTup_item a b hx fun h' c d => hQ h' (.inr ⟨c, b.extBut d.extBut hne⟩) d
theorem nextIt_end {i l : Addr} {k : Nat} {xs : Array Value} {Q : Value → Shared → Prop} (hh : A.handled = none) (h : ItAt s.heap i l k xs) (hx : xs[k]? = none)
    (hE : ∀ h' e, Heap.ExtBut i s.heap h' → (∃ o, h'.get? e = some o ∧ o.cls = .type "StopIteration") → E (.ref e) { s with heap := h' }) : wpAny (model prog w) A (nextOf (.ref i)) Q E s := by
  rcases h with ⟨a, b⟩ | ⟨a, b⟩
  · exact wpAny_nextOf_list_end hh a b hx hE
  · exact nextTup_end hh a b hx hE
/-- a zip of two -/
noncomputable abbrev ZipAt (h : Heap) (z TI TO : Addr) (f0 f1 : Value) : Prop := h.get? z = some { cls := .type "zip", dict := none, data := .fields #[f0, f1, .bool false, .ref TI, .ref TO], slots := #[] }
structure ZSt (h : Heap) (z TI TO i1 i2 l1 l2 : Addr) (f0 f1 : Value) (k : Nat) (xs ys : Array Value) : Prop where
  D : ZipApart z TI TO i1 i2 l1 l2
  hz : ZipAt h z TI TO f0 f1
  hTI : IsPair h TI (.ref i1) (.ref i2)
  hTO : ∃ a b, IsPair h TO a b
  h1 : ItAt h i1 l1 k xs
  h2 : ItAt h i2 l2 k ys
theorem zip_held_item {z TI TO i1 i2 l1 l2 T : Addr} {f1 : Bool} {k : Nat} {xs ys : Array Value} {x y : Value} {oT : Obj} {Q : PySem.Fin → Shared → Prop} (S : ZSt s.heap z TI TO i1 i2 l1 l2 (rawInt T) (.bool f1) k xs ys) (hT : s.heap.get? T = some oT)
    (hx : xs[k]? = some x) (hy : ys[k]? = some y)
    (hQ : ∀ h', ZSt h' z TI TO i1 i2 l1 l2 (rawInt T) (.bool true) (k + 1) xs ys → IsPair h' s.heap.objs.size x y → (∀ c o, c ≠ z → c ≠ i1 → c ≠ i2 → s.heap.get? c = some o → h'.get? c = some o) → Q (.done (.ret (.ref s.heap.objs.size))) { s with heap := h' }) :
    wpAny (model prog w) A (Builtin.«zip.__next__» ⟨[.ref z], []⟩) Q E s := by
  obtain ⟨D, hz, hTI, ⟨a, b, hTO⟩, h1, h2⟩ := S
  show wpAny _ _ (field (.ref z) 2 >>= _) _ _ _
  refine wpAny_bind (wpAny_field hz rfl (x := .bool false) rfl ?_)
  show wpAny _ _ (field (.ref z) 3 >>= _) _ _ _
  refine wpAny_bind (wpAny_field hz rfl (x := .ref TI) rfl ?_)
  refine wpAny_bind (wpAny_seqItems hTI rfl ?_)
  show wpAny _ _ (Builtin.SmallTypes.ownedTupleIsFree (.ref z) >>= _) _ _ _
  refine wpAny_bind ?_
  unfold Builtin.SmallTypes.ownedTupleIsFree
  refine wpAny_bind (wpAny_field hz rfl (x := rawInt T) rfl ?_)
  simp only [rawInt, Int.toNat_natCast]
  refine wpAny_bind (alive ?_)
  simp only [hT, Option.isNone_some, Bool.false_eq_true, if_false]
  refine wpAny_bind (wpAny_field hz rfl (x := .bool f1) rfl ?_)
  refine wpAny_mono (Q := fun a s' => a = false ∧ ∃ h₁, s' = { s with heap := h₁ } ∧ ZipAt h₁ z TI TO (rawInt T) (.bool true) ∧ Heap.ExtBut z s.heap h₁ ∧ h₁.objs.size = s.heap.objs.size) ?_ (fun a s' h => ?_) fun _ _ e => e
  · cases f1
    · rw [if_pos (by decide)]
      exact wpAny_bind (wpAny_setField_rec hz (by simp) fun h₁ hz₁ hs₁ => wpAny_pure ⟨rfl, h₁, rfl, hz₁, hs₁.extBut, hs₁.1⟩)
    · rw [if_neg (by decide)]
      exact wpAny_pure ⟨rfl, _, rfl, hz, fun _ _ _ e => e, rfl⟩
  obtain ⟨rfl, h₁, rfl, hz₁, hs₁, hsz₁⟩ := h
  simp only [Bool.false_eq_true, if_false]
  refine wpAny_bind ?_
  simp only [List.forIn_toArray, List.forIn_cons, List.forIn_nil]
  have up₁ : ∀ c, c ≠ z → ∀ o, s.heap.get? c = some o → h₁.get? c = some o := fun c hc o e => hs₁ c o hc e
  refine wpAny_bind (wpAny_bind (wpAny_holding ?_))
  show wpAny _ _ (nextOf (.ref i1) >>= _) _ _ _
  refine wpAny_bind (nextIt_item D.l1i1 (h1.keep (up₁ _ D.i1z) (up₁ _ D.l1z)) hx fun h₂ h1₂ hs₂ => wpAny_pure (wpAny_pure ?_))
  have up₂ : ∀ c, c ≠ z → c ≠ i1 → ∀ o, s.heap.get? c = some o → h₂.get? c = some o := fun c hc hc' o e => hs₂.extBut c o hc' (up₁ c hc o e)
  refine wpAny_bind (wpAny_bind (wpAny_holding ?_))
  show wpAny _ _ (nextOf (.ref i2) >>= _) _ _ _
  refine wpAny_bind (nextIt_item D.l2i2 (h2.keep (up₂ _ D.i2z D.i12.symm) (up₂ _ D.l2z D.l2i1)) hy fun h₃ h2₃ hs₃ => wpAny_pure (wpAny_pure (wpAny_pure ?_)))
  have up₃ : ∀ c, c ≠ z → c ≠ i1 → c ≠ i2 → ∀ o, s.heap.get? c = some o → h₃.get? c = some o := fun c hc hc' hc2 o e => hs₃.extBut c o hc2 (up₂ c hc hc' o e)
  have hsz : h₃.objs.size = s.heap.objs.size := by rw [hs₃.1, hs₂.1, hsz₁]
  refine wpAny_bind (wpAny_newTuple ?_ (by show 2 ≤ sizeLine; exact Nat.le_of_ble_eq_true rfl))
  refine wpAny_pure ?_
  show Q (.done (.ret (.ref h₃.objs.size))) _
  rw [hsz]
  have pu : ∀ c o, h₃.get? c = some o → (h₃.push { cls := .type "tuple", data := .seq #[x, y] }).get? c = some o := fun c o e => Heap.get?_push_of_some _ e
  refine hQ _ ⟨D, pu _ _ (hs₃.extBut _ _ D.i2z.symm (hs₂.extBut _ _ D.i1z.symm hz₁)), pu _ _ (up₃ _ D.TIz D.TIi1 D.TIi2 _ hTI), ⟨a, b, pu _ _ (up₃ _ D.TOz D.TOi1 D.TOi2 _ hTO)⟩, ?_, ?_⟩ ?_ fun c o c1 c2 c3 e => pu _ _ (up₃ c c1 c2 c3 o e)
  · exact h1₂.keep (fun o e => pu _ _ (hs₃.extBut _ _ D.i12 e)) (fun o e => pu _ _ (hs₃.extBut _ _ D.l1i2 e))
  · exact h2₃.keep (fun o e => pu _ _ e) (fun o e => pu _ _ e)
  · show (h₃.push _).get? s.heap.objs.size = _
    rw [← hsz]
    exact Heap.get?_push_size _ rfl
theorem zip_held_end {z TI TO i1 i2 l1 l2 T : Addr} {f1 : Bool} {k : Nat} {xs ys : Array Value} {oT : Obj} {Q : PySem.Fin → Shared → Prop} (hh : A.handled = none) (S : ZSt s.heap z TI TO i1 i2 l1 l2 (rawInt T) (.bool f1) k xs ys) (hT : s.heap.get? T = some oT) (hx : xs[k]? = none)
    (hE : ∀ h' e, (∀ c o, c ≠ z → c ≠ i1 → s.heap.get? c = some o → h'.get? c = some o) → (∃ o, h'.get? e = some o ∧ o.cls = .type "StopIteration") → E (.ref e) { s with heap := h' }) :
    wpAny (model prog w) A (Builtin.«zip.__next__» ⟨[.ref z], []⟩) Q E s := by
  obtain ⟨D, hz, hTI, ⟨a, b, hTO⟩, h1, h2⟩ := S
  show wpAny _ _ (field (.ref z) 2 >>= _) _ _ _
  refine wpAny_bind (wpAny_field hz rfl (x := .bool false) rfl ?_)
  show wpAny _ _ (field (.ref z) 3 >>= _) _ _ _
  refine wpAny_bind (wpAny_field hz rfl (x := .ref TI) rfl ?_)
  refine wpAny_bind (wpAny_seqItems hTI rfl ?_)
  show wpAny _ _ (Builtin.SmallTypes.ownedTupleIsFree (.ref z) >>= _) _ _ _
  refine wpAny_bind ?_
  unfold Builtin.SmallTypes.ownedTupleIsFree
  refine wpAny_bind (wpAny_field hz rfl (x := rawInt T) rfl ?_)
  simp only [rawInt, Int.toNat_natCast]
  refine wpAny_bind (alive ?_)
  simp only [hT, Option.isNone_some, Bool.false_eq_true, if_false]
  refine wpAny_bind (wpAny_field hz rfl (x := .bool f1) rfl ?_)
  refine wpAny_mono (Q := fun a s' => a = false ∧ ∃ h₁, s' = { s with heap := h₁ } ∧ Heap.ExtBut z s.heap h₁) ?_ (fun a s' h => ?_) fun _ s' e => e
  · cases f1
    · rw [if_pos (by decide)]
      exact wpAny_bind (wpAny_setField_rec hz (by simp) fun h₁ hz₁ hs₁ => wpAny_pure ⟨rfl, h₁, rfl, hs₁.extBut⟩)
    · rw [if_neg (by decide)]
      exact wpAny_pure ⟨rfl, _, rfl, fun _ _ _ e => e⟩
  obtain ⟨rfl, h₁, rfl, hs₁⟩ := h
  simp only [Bool.false_eq_true, if_false]
  refine wpAny_bind ?_
  simp only [List.forIn_toArray, List.forIn_cons, List.forIn_nil]
  have up₁ : ∀ c, c ≠ z → ∀ o, s.heap.get? c = some o → h₁.get? c = some o := fun c hc o e => hs₁ c o hc e
  refine wpAny_bind (wpAny_bind (wpAny_holding ?_))
  show wpAny _ _ (nextOf (.ref i1) >>= _) _ _ _
  exact wpAny_bind (nextIt_end hh (h1.keep (up₁ _ D.i1z) (up₁ _ D.l1z)) hx fun h₂ e hs₂ he => hE _ _ (fun c o c1 c2 x => hs₂ c o c2 (up₁ c c1 o x)) he)
/-- the zip's own tuple is free -/
theorem zip_free_item {z TI TO i1 i2 l1 l2 : Addr} {k : Nat} {xs ys : Array Value} {x y : Value} {Q : PySem.Fin → Shared → Prop} (S : ZSt s.heap z TI TO i1 i2 l1 l2 .none (.bool false) k xs ys)
    (hx : xs[k]? = some x) (hy : ys[k]? = some y)
    (hQ : ∀ h', ZSt h' z TI TO i1 i2 l1 l2 (rawInt s.heap.objs.size) (.bool false) (k + 1) xs ys → IsPair h' s.heap.objs.size x y → (∀ c o, c ≠ z → c ≠ TO → c ≠ i1 → c ≠ i2 → s.heap.get? c = some o → h'.get? c = some o) → Q (.done (.ret (.ref s.heap.objs.size))) { s with heap := h' }) :
    wpAny (model prog w) A (Builtin.«zip.__next__» ⟨[.ref z], []⟩) Q E s := by
  obtain ⟨D, hz, hTI, ⟨a, b, hTO⟩, h1, h2⟩ := S
  show wpAny _ _ (field (.ref z) 2 >>= _) _ _ _
  refine wpAny_bind (wpAny_field hz rfl (x := .bool false) rfl ?_)
  show wpAny _ _ (field (.ref z) 3 >>= _) _ _ _
  refine wpAny_bind (wpAny_field hz rfl (x := .ref TI) rfl ?_)
  refine wpAny_bind (wpAny_seqItems hTI rfl ?_)
  show wpAny _ _ (Builtin.SmallTypes.ownedTupleIsFree (.ref z) >>= _) _ _ _
  refine wpAny_bind ?_
  unfold Builtin.SmallTypes.ownedTupleIsFree
  refine wpAny_bind (wpAny_field hz rfl (x := .none) rfl (wpAny_pure ?_))
  simp only [if_true]
  refine wpAny_bind (wpAny_rule ?_)
  refine wpAny_bind (wpAny_field hz rfl (x := .ref TO) rfl ?_)
  refine wpAny_bind (wpAny_setField_rec hz (by simp) fun h₁ hz₁ hs₁ => ?_)
  replace hz₁ : ZipAt h₁ z TI TO .ellipsis (.bool false) := hz₁
  have up₁ : ∀ c, c ≠ z → ∀ o, s.heap.get? c = some o → h₁.get? c = some o := fun c hc o e => hs₁.extBut c o hc e
  refine wpAny_bind ?_
  simp only [List.zipIdx_cons, List.zipIdx_nil, List.forIn_cons, List.forIn_nil]
  refine wpAny_bind (wpAny_bind (wpAny_onRaise ?_))
  show wpAny _ _ (nextOf (.ref i1) >>= _) _ _ _
  refine wpAny_bind (nextIt_item D.l1i1 (h1.keep (up₁ _ D.i1z) (up₁ _ D.l1z)) hx fun h₂ h1₂ hs₂ => wpAny_pure ?_)
  have up₂ : ∀ c, c ≠ z → c ≠ i1 → ∀ o, s.heap.get? c = some o → h₂.get? c = some o := fun c hc hc' o e => hs₂.extBut c o hc' (up₁ c hc o e)
  refine wpAny_bind (wpAny_seqItems (up₂ _ D.TOz D.TOi1 _ hTO) rfl ?_)
  refine wpAny_bind (wpAny_updateSeq_pair (up₂ _ D.TOz D.TOi1 _ hTO) fun h₃ hTO₃ hs₃ => ?_)
  replace hTO₃ : IsPair h₃ TO x b := hTO₃
  refine wpAny_bind (wpAny_letGo (wpAny_pure ?_))
  have up₃ : ∀ c, c ≠ z → c ≠ TO → c ≠ i1 → ∀ o, s.heap.get? c = some o → h₃.get? c = some o := fun c hc hc' hc2 o e => hs₃.extBut c o hc' (up₂ c hc hc2 o e)
  refine wpAny_bind (wpAny_bind (wpAny_onRaise ?_))
  show wpAny _ _ (nextOf (.ref i2) >>= _) _ _ _
  refine wpAny_bind (nextIt_item D.l2i2 (h2.keep (up₃ _ D.i2z D.TOi2.symm D.i12.symm) (up₃ _ D.l2z D.l2TO D.l2i1)) hy fun h₄ h2₄ hs₄ => wpAny_pure ?_)
  have hTO₄ : IsPair h₄ TO x b := hs₄.extBut _ _ D.TOi2 hTO₃
  refine wpAny_bind (wpAny_seqItems hTO₄ rfl ?_)
  refine wpAny_bind (wpAny_updateSeq_pair hTO₄ fun h₅ hTO₅ hs₅ => ?_)
  replace hTO₅ : IsPair h₅ TO x y := hTO₅
  refine wpAny_bind (wpAny_letGo (wpAny_pure (wpAny_pure ?_)))
  refine wpAny_bind (wpAny_seqItems hTO₅ rfl ?_)
  refine wpAny_bind (wpAny_newTuple ?_)
  have hsz : h₅.objs.size = s.heap.objs.size := by rw [hs₅.1, hs₄.1, hs₃.1, hs₂.1, hs₁.1]
  have hz₅ : ZipAt h₅ z TI TO .ellipsis (.bool false) := hs₅.extBut _ _ D.TOz.symm (hs₄.extBut _ _ D.i2z.symm (hs₃.extBut _ _ D.TOz.symm (hs₂.extBut _ _ D.i1z.symm hz₁)))
  have up₅ : ∀ c, c ≠ z → c ≠ TO → c ≠ i1 → c ≠ i2 → ∀ o, s.heap.get? c = some o → h₅.get? c = some o := fun c c1 c2 c3 c4 o e => hs₅.extBut _ _ c2 (hs₄.extBut _ _ c4 (up₃ c c1 c2 c3 o e))
  have h1₅ : ItAt h₅ i1 l1 (k + 1) xs := h1₂.keep (fun o e => hs₅.extBut _ _ D.TOi1.symm (hs₄.extBut _ _ D.i12 (hs₃.extBut _ _ D.TOi1.symm e))) (fun o e => hs₅.extBut _ _ D.l1TO (hs₄.extBut _ _ D.l1i2 (hs₃.extBut _ _ D.l1TO e)))
  have h2₅ : ItAt h₅ i2 l2 (k + 1) ys := h2₄.keep (fun o e => hs₅.extBut _ _ D.TOi2.symm e) (fun o e => hs₅.extBut _ _ D.l2TO e)
  have hzlt : z < h₅.objs.size := Heap.lt_size hz₅
  refine wpAny_bind ?_
  unfold Builtin.SmallTypes.ownedTupleHandOut
  refine wpAny_bind (wpAny_setField_rec (Heap.get?_push_of_some _ hz₅) (by simp) fun h₇ hz₇ hs₇ => ?_)
  replace hz₇ : ZipAt h₇ z TI TO (rawInt h₅.objs.size) (.bool false) := hz₇
  refine wpAny_setField_rec hz₇ (by simp) fun h₈ hz₈ hs₈ => ?_
  replace hz₈ : ZipAt h₈ z TI TO (rawInt h₅.objs.size) (.bool false) := hz₈
  have up : ∀ c o, c ≠ z → h₅.get? c = some o → h₈.get? c = some o := fun c o c1 e => hs₈.extBut _ _ c1 (hs₇.extBut _ _ c1 (Heap.get?_push_of_some _ e))
  have hT₈ : IsPair h₈ h₅.objs.size x y := hs₈.extBut _ _ (Nat.ne_of_gt hzlt) (hs₇.extBut _ _ (Nat.ne_of_gt hzlt) (Heap.get?_push_size _ rfl))
  rw [hsz] at hz₈ hT₈
  refine wpAny_pure ?_
  show Q (.done (.ret (.ref h₅.objs.size))) _
  rw [hsz]
  exact hQ h₈ ⟨D, hz₈, up _ _ D.TIz (up₅ _ D.TIz D.TITO D.TIi1 D.TIi2 _ hTI), ⟨_, _, up _ _ D.TOz hTO₅⟩, h1₅.keep (fun o e => up _ o D.i1z e) (fun o e => up _ o D.l1z e), h2₅.keep (fun o e => up _ o D.i2z e) (fun o e => up _ o D.l2z e)⟩ hT₈
    fun c o c1 c2 c3 c4 e => up c o c1 (up₅ c c1 c2 c3 c4 o e)
theorem zip_free_end {z TI TO i1 i2 l1 l2 : Addr} {k : Nat} {xs ys : Array Value} {Q : PySem.Fin → Shared → Prop} (hh : A.handled = none) (S : ZSt s.heap z TI TO i1 i2 l1 l2 .none (.bool false) k xs ys) (hx : xs[k]? = none)
    (hE : ∀ h' e, (∀ c o, c ≠ z → c ≠ i1 → s.heap.get? c = some o → h'.get? c = some o) → (∃ o, h'.get? e = some o ∧ o.cls = .type "StopIteration") → E (.ref e) { s with heap := h' }) :
    wpAny (model prog w) A (Builtin.«zip.__next__» ⟨[.ref z], []⟩) Q E s := by
  obtain ⟨D, hz, hTI, ⟨a, b, hTO⟩, h1, h2⟩ := S
  show wpAny _ _ (field (.ref z) 2 >>= _) _ _ _
  refine wpAny_bind (wpAny_field hz rfl (x := .bool false) rfl ?_)
  show wpAny _ _ (field (.ref z) 3 >>= _) _ _ _
  refine wpAny_bind (wpAny_field hz rfl (x := .ref TI) rfl ?_)
  refine wpAny_bind (wpAny_seqItems hTI rfl ?_)
  show wpAny _ _ (Builtin.SmallTypes.ownedTupleIsFree (.ref z) >>= _) _ _ _
  refine wpAny_bind ?_
  unfold Builtin.SmallTypes.ownedTupleIsFree
  refine wpAny_bind (wpAny_field hz rfl (x := .none) rfl (wpAny_pure ?_))
  simp only [if_true]
  refine wpAny_bind (wpAny_rule ?_)
  refine wpAny_bind (wpAny_field hz rfl (x := .ref TO) rfl ?_)
  refine wpAny_bind (wpAny_setField_rec hz (by simp) fun h₁ hz₁ hs₁ => ?_)
  have up₁ : ∀ c, c ≠ z → ∀ o, s.heap.get? c = some o → h₁.get? c = some o := fun c hc o e => hs₁.extBut c o hc e
  refine wpAny_bind ?_
  simp only [List.zipIdx_cons, List.zipIdx_nil, List.forIn_cons, List.forIn_nil]
  refine wpAny_bind (wpAny_bind (wpAny_onRaise ?_))
  show wpAny _ _ (nextOf (.ref i1) >>= _) _ _ _
  refine wpAny_bind (nextIt_end hh (h1.keep (up₁ _ D.i1z) (up₁ _ D.l1z)) hx fun h₂ e hs₂ he => ?_)
  obtain ⟨oe, hoe, hce⟩ := he
  have hz₂ := hs₂ _ _ D.i1z.symm hz₁
  have hez : e ≠ z := fun q => by subst q; rw [hz₂] at hoe; cases hoe; simp at hce
  exact wpAny_setField_rec hz₂ (by simp) fun h₃ _ hs₃ => hE h₃ e (fun c o c1 c2 q => hs₃.extBut _ _ c1 (hs₂ _ _ c2 (up₁ c c1 o q))) ⟨oe, hs₃.extBut _ _ hez hoe, hce⟩
/-- the next of a zip -/
theorem zip_next {z TI TO i1 i2 l1 l2 : Addr} {f0 f1 : Value} {k : Nat} {xs ys : Array Value} {Q : Option Value → Shared → Prop} (S : ZSt s.heap z TI TO i1 i2 l1 l2 f0 f1 k xs ys)
    (h : wpAny (model prog w) A.in1 (Builtin.«zip.__next__» ⟨[.ref z], []⟩) (fun fin s' => ∃ v, fin = .done (.ret v) ∧ Q (some v) s') (fun e s' => ∃ a o, e = .ref a ∧ s'.heap.get? a = some o ∧ o.cls = .type "StopIteration" ∧ Q none s') s) :
    wpAny (model prog w) A (pyNext (.ref z)) Q E s := by
  have hT : s.TypeIs (.ref z) "zip" := ⟨_, S.hz, rfl⟩
  unfold pyNext
  refine wpAny_bind (wpAny_attempt (wpAny_callSpecial?_slot (name := Str.ofString "__next__") hT F.slot_zip_next
    (wpAny_call_entry F.slot_zip_next hT F.entry_zip_next (wpAny_mono h (fun fin s' h' => ?_) fun e s' h' => ?_) (F.args_zip_next_1 _))))
  · obtain ⟨v, rfl, hq⟩ := h'
    exact ⟨v, rfl, wpAny_pure hq⟩
  · obtain ⟨a, o, rfl, ho, hc, hq⟩ := h'
    exact wpAny_bind (wpAny_isInstance (T := "StopIteration") (b := true) ⟨o, ho, hc⟩ isSubtype_stop (wpAny_pure hq))
end
end
end
section
set_option maxRecDepth 100000
section
open PySem PySem.W PySem.Calls PyProof.Rows PyProof.Rows.LCg
section
variable {prog : Program} {w : World} {A : Around} {E : Value → Shared → Prop} {s : Shared} {h₀ : Heap} {L : Addr} {m : Str → Option Value} {news : List (Addr × Obj)}
noncomputable abbrev zt1 (h : Heap) (l1 : Addr) : Heap := h.push { cls := .type "tuple_iterator", data := .fields #[.ref l1, .int 0 0] }
noncomputable abbrev zt2 (h : Heap) (l1 l2 : Addr) : Heap := (zt1 h l1).push { cls := .type "tuple_iterator", data := .fields #[.ref l2, .int 0 0] }
noncomputable abbrev zt3 (h : Heap) (l1 l2 : Addr) : Heap := (zt2 h l1 l2).push { cls := .type "tuple", data := .seq #[.ref h.objs.size, .ref (zt1 h l1).objs.size] }
noncomputable abbrev zt4 (h : Heap) (l1 l2 : Addr) : Heap := (zt3 h l1 l2).push { cls := .type "tuple", data := .seq #[.none, .none] }
noncomputable abbrev zt5 (h : Heap) (l1 l2 : Addr) : Heap := (zt4 h l1 l2).push { cls := .type "zip", data := .fields #[.none, .bool false, .bool false, .ref (zt2 h l1 l2).objs.size, .ref (zt3 h l1 l2).objs.size] }
theorem meets_zipT (l1 l2 : Addr) (xs ys : Array Value) :
    Meets (Builtin.«zip.__new__» ⟨[.type "zip", .ref l1, .ref l2], []⟩) (fun _ R s => s.heap.IsTuple l1 xs ∧ s.heap.IsTuple l2 ys ∧
      R (.ok (.ret (.ref (zt4 s.heap l1 l2).objs.size))) { s with heap := zt5 s.heap l1 l2 }) :=
  .of_wp fun prog w A R s h => by
    obtain ⟨hp, g, d, tk, os⟩ := s; obtain ⟨hl1, hl2, h⟩ := h
    have hsub := sub_zip
    have hL1 : Heap.IsTuple (Shared.heap ⟨hp, g, d, tk, os⟩) l1 xs := hl1
    have hL2 : Heap.IsTuple (Shared.heap ⟨hp.push { cls := .type "tuple_iterator", data := .fields #[.ref l1, .int 0 0] }, g, d, tk, os⟩) l2 ys := Heap.IsTuple.push hl2 _
    wp_walk using wpAny_pyIter_tuple hL1, wpAny_pyIter_tuple hL2
    exact ⟨_, rfl, h⟩
/-- a new zip, made above all that stands -/
structure ZNew (h : Heap) (z : Addr) (n : Nat) (l1 l2 : Addr) (xs ys : Array Value) : Prop where
  st : ZSt h z (n + 2) (n + 3) n (n + 1) l1 l2 .none (.bool false) 0 xs ys
  hz : z = n + 4
theorem zip_tups {l1 l2 : Addr} {xs ys : Array Value} {Q : Value → Shared → Prop} (hl1 : s.heap.IsTuple l1 xs) (hl2 : s.heap.IsTuple l2 ys)
    (h : ∀ h', ZNew h' (s.heap.objs.size + 4) s.heap.objs.size l1 l2 xs ys → (∀ c o, s.heap.get? c = some o → h'.get? c = some o) → Q (.ref (s.heap.objs.size + 4)) { s with heap := h' }) :
    wpAny (model prog w) A (call (.type "zip") [.ref l1, .ref l2]) Q E s := by
  have a1 : l1 < s.heap.objs.size := by obtain ⟨_, e, _⟩ := hl1; exact Heap.lt_size e
  have a2 : l2 < s.heap.objs.size := by obtain ⟨_, e, _⟩ := hl2; exact Heap.lt_size e
  refine callType_new F.called_zip (by decide) (F.typeCall_zip_2 _ _) (F.newCall_zip_2 _ _) (fun obj => F.args_object_init_3 obj _ _) F.entry_zip_new
    (meets_zipT l1 l2 xs ys) ⟨hl1, hl2, ?_⟩
  have z1 : (zt1 s.heap l1).objs.size = s.heap.objs.size + 1 := Heap.size_push ..
  have z2 : (zt2 s.heap l1 l2).objs.size = s.heap.objs.size + 2 := by rw [Heap.size_push, z1]
  have z3 : (zt3 s.heap l1 l2).objs.size = s.heap.objs.size + 3 := by rw [Heap.size_push, z2]
  have z4 : (zt4 s.heap l1 l2).objs.size = s.heap.objs.size + 4 := by rw [Heap.size_push, z3]
  have up : ∀ {h : Heap} {o' : Obj} c o, h.get? c = some o → (h.push o').get? c = some o := fun c o e => Heap.get?_push_of_some _ e
  have g5 : (zt5 s.heap l1 l2).get? (zt4 s.heap l1 l2).objs.size = some _ := Heap.get?_push_size _ rfl
  have g4 : (zt5 s.heap l1 l2).get? (zt3 s.heap l1 l2).objs.size = some _ := up _ _ (Heap.get?_push_size _ rfl)
  have g3 : (zt5 s.heap l1 l2).get? (zt2 s.heap l1 l2).objs.size = some _ := up _ _ (up _ _ (Heap.get?_push_size _ rfl))
  have g2 : (zt5 s.heap l1 l2).get? (zt1 s.heap l1).objs.size = some _ := up _ _ (up _ _ (up _ _ (Heap.get?_push_size _ rfl)))
  have g1 : (zt5 s.heap l1 l2).get? s.heap.objs.size = some _ := up _ _ (up _ _ (up _ _ (up _ _ (Heap.get?_push_size _ rfl))))
  have old : ∀ c o, s.heap.get? c = some o → (zt5 s.heap l1 l2).get? c = some o := fun c o x => up _ _ (up _ _ (up _ _ (up _ _ (up _ _ x))))
  show _ ∧ _
  rw [z2, z3, z4] at g5
  rw [z1, z2] at g3
  rw [z3] at g4
  rw [z1] at g2
  rw [z4]
  obtain ⟨o1, e1, r1⟩ := hl1
  obtain ⟨o2, e2, r2⟩ := hl2
  exact ⟨⟨_, g5, rfl⟩, h _ ⟨⟨zipApart_new a1 a2, g5, g3, ⟨_, _, g4⟩, .inr ⟨⟨_, g1, rfl, rfl⟩, ⟨o1, old _ _ e1, r1⟩⟩, .inr ⟨⟨_, g2, rfl, rfl⟩, ⟨o2, old _ _ e2, r2⟩⟩⟩, rfl⟩ old⟩
theorem zip_lists {l1 l2 : Addr} {xs ys : Array Value} {Q : Value → Shared → Prop} (hl1 : s.heap.IsList l1 xs) (hl2 : s.heap.IsList l2 ys)
    (h : ∀ h', ZNew h' (s.heap.objs.size + 4) s.heap.objs.size l1 l2 xs ys → (∀ c o, s.heap.get? c = some o → h'.get? c = some o) → Q (.ref (s.heap.objs.size + 4)) { s with heap := h' }) :
    wpAny (model prog w) A (call (.type "zip") [.ref l1, .ref l2]) Q E s := by
  have a1 : l1 < s.heap.objs.size := by obtain ⟨_, e, _⟩ := hl1; exact Heap.lt_size e
  have a2 : l2 < s.heap.objs.size := by obtain ⟨_, e, _⟩ := hl2; exact Heap.lt_size e
  refine call_zip_2 hl1 hl2 fun h' hz hTI hTO hi1 hi2 _ hk => h h' ⟨⟨zipApart_new a1 a2, hz, hTI, ⟨_, _, hTO⟩, .inl ⟨hi1, ?_⟩, .inl ⟨hi2, ?_⟩⟩, rfl⟩ hk
  · obtain ⟨o, e, r⟩ := hl1; exact ⟨o, hk _ _ e, r⟩
  · obtain ⟨o, e, r⟩ := hl2; exact ⟨o, hk _ _ e, r⟩
/-- what the walk keeps of a new zip: its ledger stands below it -/
noncomputable def ZipW (h : Heap) (L z : Addr) (l1 l2 : Addr) (xs ys : Array Value) (h₀ : Heap) (news : List (Addr × Obj)) : Prop :=
  ∃ n, ZNew h z n l1 l2 xs ys ∧ (∀ q ∈ news, q.1 < n) ∧ L < n ∧ ∀ a o, h₀.get? a = some o → a < n
theorem zip_tupsW {l1 l2 : Addr} {xs ys : Array Value} {k1 k2 : Nat} {Q : Value → Shared → Prop} (F : Fr h₀ L s.heap m) (N : News h₀ L s.heap news)
    (m1 : (l1, ({ cls := .type "tuple", data := .seq xs k1 } : Obj)) ∈ news) (m2 : (l2, ({ cls := .type "tuple", data := .seq ys k2 } : Obj)) ∈ news)
    (h : ∀ z h', Fr h₀ L h' m → News h₀ L h' news → ZipW h' L z l1 l2 xs ys h₀ news → Q (.ref z) { s with heap := h' }) :
    wpAny (model prog w) A (call (.type "zip") [.ref l1, .ref l2]) Q E s :=
  zip_tups ⟨_, (N _ m1).1, rfl, k1, rfl⟩ ⟨_, (N _ m2).1, rfl, k2, rfl⟩ fun h' Z k => h _ h' (F.keeps k) (N.grown k) ⟨_, Z, fun q hq => Heap.lt_size (N q hq).1, F.ns.lt, fun a o e => Heap.lt_size (F.keep a o e)⟩
theorem zip_listsW {l1 l2 : Addr} {xs ys : Array Value} {k1 k2 : Nat} {Q : Value → Shared → Prop} (F : Fr h₀ L s.heap m) (N : News h₀ L s.heap news)
    (m1 : (l1, ({ cls := .type "list", data := .seq xs k1 } : Obj)) ∈ news) (m2 : (l2, ({ cls := .type "list", data := .seq ys k2 } : Obj)) ∈ news)
    (h : ∀ z h', Fr h₀ L h' m → News h₀ L h' news → ZipW h' L z l1 l2 xs ys h₀ news → Q (.ref z) { s with heap := h' }) :
    wpAny (model prog w) A (call (.type "zip") [.ref l1, .ref l2]) Q E s :=
  zip_lists ⟨_, (N _ m1).1, rfl, k1, rfl⟩ ⟨_, (N _ m2).1, rfl, k2, rfl⟩ fun h' Z k => h _ h' (F.keeps k) (N.grown k) ⟨_, Z, fun q hq => Heap.lt_size (N q hq).1, F.ns.lt, fun a o e => Heap.lt_size (F.keep a o e)⟩
end
end
end
section
set_option maxRecDepth 100000
section
open PySem PySem.W PySem.Calls PyProof.Rows PyProof.Rows.LCg
theorem zip_no_len : typeLookup (.type "zip") "__len__" = pure none := by rw [typeLookup_type, builtinLookup_eq_fast]; kernel_rfl
theorem zip_no_hint : typeLookup (.type "zip") "__length_hint__" = pure none := by rw [typeLookup_type, builtinLookup_eq_fast]; kernel_rfl
theorem ZSt.keep {h h' : Heap} {z TI TO i1 i2 l1 l2 : Addr} {f0 f1 : Value} {k : Nat} {xs ys : Array Value} (S : ZSt h z TI TO i1 i2 l1 l2 f0 f1 k xs ys)
    (kp : ∀ c ∈ [z, TI, TO, i1, i2, l1, l2], ∀ o, h.get? c = some o → h'.get? c = some o) : ZSt h' z TI TO i1 i2 l1 l2 f0 f1 k xs ys := by
  obtain ⟨D, hz, hTI, ⟨a, b, hTO⟩, h1, h2⟩ := S
  exact ⟨D, kp z (by simp) _ hz, kp TI (by simp) _ hTI, ⟨a, b, kp TO (by simp) _ hTO⟩, h1.keep (kp i1 (by simp)) (kp l1 (by simp)), h2.keep (kp i2 (by simp)) (kp l2 (by simp))⟩
theorem ZSt.lt {h : Heap} {z TI TO i1 i2 l1 l2 : Addr} {f0 f1 : Value} {k : Nat} {xs ys : Array Value} (S : ZSt h z TI TO i1 i2 l1 l2 f0 f1 k xs ys) : ∀ c ∈ [z, TI, TO, i1, i2, l1, l2], c < h.objs.size := by
  obtain ⟨D, hz, hTI, ⟨a, b, hTO⟩, h1, h2⟩ := S
  obtain ⟨⟨_, e1⟩, ⟨_, e2⟩⟩ := h1.some
  obtain ⟨⟨_, e3⟩, ⟨_, e4⟩⟩ := h2.some
  intro c hc
  simp only [List.mem_cons, List.not_mem_nil, or_false] at hc
  rcases hc with rfl | rfl | rfl | rfl | rfl | rfl | rfl
  · exact Heap.lt_size hz
  · exact Heap.lt_size hTI
  · exact Heap.lt_size hTO
  · exact Heap.lt_size e1
  · exact Heap.lt_size e3
  · exact Heap.lt_size e2
  · exact Heap.lt_size e4
section
variable {prog : Program} {w : World} {A : Around} {E : Value → Shared → Prop} {s : Shared} {R : Result → Shared → Prop}
noncomputable abbrev lis (acc : Array Value) (c : Nat) : Obj := { cls := .type "list", dict := none, data := .seq acc c, slots := #[] }
theorem ext_turn {S z : Addr} {res : Value} {acc : Array Value} {c : Nat} (na : acc.size ≤ 8)
    (h : wpAny (model prog w) A.in1 (pyNext (.ref z)) (fun r s' => match r with
      | none => R (.ok (.ret res)) s'
      | some v => s'.heap.get? S = some (lis acc c) ∧ ∀ h', Heap.SameBut S s'.heap h' → h'.get? S = some (lis (acc.push v) (c + 1)) → codeAny (model prog w) A (.builtin "list.extend.loop" ⟨[.ref S, .ref z, res], []⟩) R { s' with heap := h' }) (fun e s' => R (.error e) s') s) :
    codeAny (model prog w) A (.builtin "list.extend.loop" ⟨[.ref S, .ref z, res], []⟩) R s := by
  refine codeAny_builtin F.entry_extend_loop ?_
  rw [Around.under_plainId F.plain_extend_loop _]
  show wpAny _ A.in1 (pyNext (.ref z) >>= _) _ _ s
  refine wpAny_bind (wpAny_mono h (fun r s' h' => ?_) fun _ _ e => e)
  have l8 : 8 ≤ sizeLine := Nat.le_of_ble_eq_true rfl
  cases r with
  | none => exact wpAny_pure h'
  | some v =>
    obtain ⟨hS, k⟩ := h'
    show wpAny _ A.in1 (updateSeq S (·.push v) >>= _) _ _ _
    refine wpAny_bind (wpAny_updateSeq hS rfl (wpAny_pure ⟨plainId_quiet F.plain_extend_loop _, k _ (Heap.SameBut.update ..) ?_⟩) (Nat.le_trans na l8) ?_)
    · rw [Heap.get?_update_self _ hS (by rw [mapSeq_push]; rfl), mapSeq_push]
    · show (acc.push v).size ≤ sizeLine + 1
      rw [Array.size_push]; omega
/-- three turns over a zip of two threes -/
theorem ext_zip3 {S z TI TO i1 i2 l1 l2 : Addr} {res x0 x1 x2 y0 y1 y2 : Value} {c : Nat} (hh : A.handled = none) (Z : ZSt s.heap z TI TO i1 i2 l1 l2 .none (.bool false) 0 #[x0, x1, x2] #[y0, y1, y2])
    (hS : s.heap.get? S = some (lis #[] c)) (off : ∀ a ∈ [z, TI, TO, i1, i2, l1, l2], a ≠ S)
    (hR : ∀ T0 T1 T2 h' c', S < T0 → T0 < T1 → T1 < T2 → (∀ b o, b ≠ S → b ≠ z → b ≠ TO → b ≠ i1 → b ≠ i2 → s.heap.get? b = some o → h'.get? b = some o ∧ b < T0) → h'.get? S = some (lis #[.ref T0, .ref T1, .ref T2] c') →
      IsPair h' T0 x0 y0 → IsPair h' T1 x1 y1 → IsPair h' T2 x2 y2 → R (.ok (.ret res)) { s with heap := h' }) :
    codeAny (model prog w) A (.builtin "list.extend.loop" ⟨[.ref S, .ref z, res], []⟩) R s := by
  have mz : z ∈ [z, TI, TO, i1, i2, l1, l2] := by simp
  have mTO : TO ∈ [z, TI, TO, i1, i2, l1, l2] := by simp
  have m1 : i1 ∈ [z, TI, TO, i1, i2, l1, l2] := by simp
  have m2 : i2 ∈ [z, TI, TO, i1, i2, l1, l2] := by simp
  have hh' : A.in1.handled = none := hh
  refine ext_turn (acc := #[]) (c := c) (Nat.le_of_ble_eq_true rfl) (zip_next Z (zip_free_item Z (x := x0) (y := y0) rfl rfl fun h₁ Z₁ p₁ k₁ => ⟨_, rfl, ?_⟩))
  have S₁ : h₁.get? S = some (lis #[] c) := k₁ _ _ (off z mz).symm (off TO mTO).symm (off i1 m1).symm (off i2 m2).symm hS
  refine ⟨S₁, fun g₁ b₁ e₁ => ?_⟩
  have Sl : S < s.heap.objs.size := Heap.lt_size hS
  have W₁ := Z₁.keep fun a ha o e => b₁.extBut a o (off a ha) e
  have P₁ : IsPair g₁ s.heap.objs.size x0 y0 := b₁.extBut _ _ (Nat.ne_of_gt Sl) p₁
  refine ext_turn (acc := #[.ref s.heap.objs.size]) (c := c + 1) (Nat.le_of_ble_eq_true rfl) (zip_next W₁ (zip_held_item W₁ (f1 := false) P₁ (x := x1) (y := y1) rfl rfl fun h₂ Z₂ p₂ k₂ => ⟨_, rfl, ?_⟩))
  have S₂ := k₂ _ _ (off z mz).symm (off i1 m1).symm (off i2 m2).symm e₁
  refine ⟨S₂, fun g₂ b₂ e₂ => ?_⟩
  have W₂ := Z₂.keep fun a ha o e => b₂.extBut a o (off a ha) e
  have lt₁ : s.heap.objs.size < g₁.objs.size := Heap.lt_size P₁
  have np : ∀ a ∈ [z, TI, TO, i1, i2, l1, l2], s.heap.objs.size ≠ a := fun a ha => Nat.ne_of_gt (Z.lt a ha)
  have np₂ : ∀ a ∈ [z, TI, TO, i1, i2, l1, l2], g₁.objs.size ≠ a := fun a ha => Nat.ne_of_gt (W₁.lt a ha)
  have nS : s.heap.objs.size ≠ S := Nat.ne_of_gt Sl
  have Sl₁ : S < g₁.objs.size := Nat.lt_trans Sl lt₁
  have P₁₂ : IsPair g₂ s.heap.objs.size x0 y0 := b₂.extBut _ _ nS (k₂ _ _ (np z mz) (np i1 m1) (np i2 m2) P₁)
  have P₂ : IsPair g₂ g₁.objs.size x1 y1 := b₂.extBut _ _ (Nat.ne_of_gt Sl₁) p₂
  refine ext_turn (acc := #[.ref s.heap.objs.size, .ref g₁.objs.size]) (c := c + 1 + 1) (Nat.le_of_ble_eq_true rfl) (zip_next W₂ (zip_held_item W₂ (f1 := true) P₁₂ (x := x2) (y := y2) rfl rfl fun h₃ Z₃ p₃ k₃ => ⟨_, rfl, ?_⟩))
  have S₃ := k₃ _ _ (off z mz).symm (off i1 m1).symm (off i2 m2).symm e₂
  refine ⟨S₃, fun g₃ b₃ e₃ => ?_⟩
  have W₃ := Z₃.keep fun a ha o e => b₃.extBut a o (off a ha) e
  have lt₂ : g₁.objs.size < g₂.objs.size := Heap.lt_size P₂
  have Sl₂ : S < g₂.objs.size := Nat.lt_trans Sl₁ lt₂
  have P₁₃ : IsPair g₃ s.heap.objs.size x0 y0 := b₃.extBut _ _ nS (k₃ _ _ (np z mz) (np i1 m1) (np i2 m2) P₁₂)
  have P₂₃ : IsPair g₃ g₁.objs.size x1 y1 := b₃.extBut _ _ (Nat.ne_of_gt Sl₁) (k₃ _ _ (np₂ z mz) (np₂ i1 m1) (np₂ i2 m2) P₂)
  have P₃ : IsPair g₃ g₂.objs.size x2 y2 := b₃.extBut _ _ (Nat.ne_of_gt Sl₂) p₃
  refine ext_turn (acc := #[.ref s.heap.objs.size, .ref g₁.objs.size, .ref g₂.objs.size]) (c := c + 1 + 1 + 1) (Nat.le_of_ble_eq_true rfl) (zip_next W₃ (zip_held_end hh' W₃ (f1 := true) P₁₃ rfl fun h₄ e k₄ he => ?_))
  obtain ⟨oe, he, hc⟩ := he
  refine ⟨e, oe, rfl, he, hc, ?_⟩
  refine hR s.heap.objs.size g₁.objs.size g₂.objs.size h₄ _ Sl lt₁ lt₂ (fun b o n1 n2 n3 n4 n5 x => ⟨k₄ b o n2 n4 (b₃.extBut _ _ n1 (k₃ _ _ n2 n4 n5 (b₂.extBut _ _ n1 (k₂ _ _ n2 n4 n5 (b₁.extBut _ _ n1 (k₁ _ _ n2 n3 n4 n5 x)))))), Heap.lt_size x⟩)
    (k₄ _ _ (off z mz).symm (off i1 m1).symm e₃) (k₄ _ _ (np z mz) (np i1 m1) P₁₃) (k₄ _ _ (np₂ z mz) (np₂ i1 m1) P₂₃) (k₄ _ _ ?_ ?_ P₃)
  · exact Nat.ne_of_gt (W₂.lt z mz)
  · exact Nat.ne_of_gt (W₂.lt i1 m1)
end
end
end
section
set_option maxRecDepth 100000
section
open PySem PySem.W PySem.Calls PyProof.Rows PyProof.Rows.LCg
section
variable {prog : Program} {w : World} {A : Around} {E : Value → Shared → Prop} {s : Shared} {h₀ : Heap} {L : Addr} {m : Str → Option Value} {news : List (Addr × Obj)}
/-- list(z) of a zip of two threes -/
theorem list_zip3 {z TI TO i1 i2 l1 l2 : Addr} {x0 x1 x2 y0 y1 y2 : Value} {Q : Value → Shared → Prop} (hh : A.handled = none) (Z : ZSt s.heap z TI TO i1 i2 l1 l2 .none (.bool false) 0 #[x0, x1, x2] #[y0, y1, y2])
    (hQ : ∀ T0 T1 T2 h' c', s.heap.objs.size < T0 → T0 < T1 → T1 < T2 → (∀ b o, b ≠ z → b ≠ TO → b ≠ i1 → b ≠ i2 → s.heap.get? b = some o → h'.get? b = some o) → h'.get? s.heap.objs.size = some (lis #[.ref T0, .ref T1, .ref T2] c') →
      IsPair h' T0 x0 y0 → IsPair h' T1 x1 y1 → IsPair h' T2 x2 y2 → Q (.ref s.heap.objs.size) { s with heap := h' }) :
    wpAny (model prog w) A (call (.type "list") [.ref z]) Q E s := by
  have mz : z ∈ [z, TI, TO, i1, i2, l1, l2] := by simp
  refine callType_codes (Q₁ := fun obj s₁ => obj = .ref s.heap.objs.size ∧ s₁ = { s with heap := s.heap.push { cls := .type "list", data := .seq #[] } }) F.called_list (F.typeCall_list_1 _) F.entry_list_init
    (code_list_new _ ⟨rfl, rfl⟩) fun obj s₁ h₁ => ?_
  obtain ⟨rfl, rfl⟩ := h₁
  have hS : (s.heap.push { cls := .type "list", data := .seq #[] }).get? s.heap.objs.size = some (lis #[] 0) := Heap.get?_push_size _ rfl
  refine ⟨⟨_, hS, rfl⟩, F.args_list_init_2 _ _, ?_⟩
  have hzS : z ≠ s.heap.objs.size := Nat.ne_of_lt (Z.lt z mz)
  have off : ∀ a ∈ [z, TI, TO, i1, i2, l1, l2], a ≠ s.heap.objs.size := fun a ha => Nat.ne_of_lt (Z.lt a ha)
  have Z₀ := Z.keep (h' := s.heap.push { cls := .type "list", data := .seq #[] }) fun a _ o e => Heap.get?_push_of_some _ e
  generalize hg : s.heap.push { cls := .type "list", data := .seq #[] } = g at hS Z₀ ⊢
  have old₀ : ∀ b o, s.heap.get? b = some o → g.get? b = some o := fun b o e => hg ▸ Heap.get?_push_of_some _ e
  generalize hn : s.heap.objs.size = S at *
  show wpAny _ _ (do let old ← Builtin.List.listItems (.ref S); Builtin.List.listUpdate (.ref S) (fun _ => #[]); letGo old.toList.reverse; Builtin.List.listExtendWith (.ref S) (.ref z) .none) _ _ _
  refine wpAny_bind ?_
  unfold Builtin.List.listItems
  refine wpAny_bind (wpAny_seqItems hS rfl (wpAny_pure ?_))
  show wpAny _ _ (updateSeq S (fun _ => #[]) >>= fun _ => letGo (#[] : Array Value).toList.reverse >>= fun _ => Builtin.List.listExtendWith (.ref S) (.ref z) .none) _ _ _
  refine wpAny_bind (wpAny_updateSeq hS rfl ?_)
  have hS₂ := Heap.get?_update_self (Obj.mapSeq (fun _ => (#[] : Array Value))) hS rfl
  have oth : ∀ b o, b ≠ S → g.get? b = some o → (g.update S (Obj.mapSeq (fun _ => (#[] : Array Value)))).get? b = some o := fun b o hb e => (Heap.get?_update_other _ _ (Ne.symm hb)).trans e
  refine wpAny_bind (wpAny_letGo ?_)
  have Z₂ := Z₀.keep (h' := g.update S (Obj.mapSeq (fun _ => (#[] : Array Value)))) fun a ha o e => oth a o (off a ha) e
  generalize g.update S (Obj.mapSeq (fun _ => (#[] : Array Value))) = g₂ at hS₂ oth Z₂ ⊢
  have hT : ∀ (u : Shared), u.heap = g₂ → u.TypeIs (.ref z) "zip" := fun u e => ⟨_, e ▸ Z₂.hz, rfl⟩
  unfold Builtin.List.listExtendWith
  refine wpAny_bind (wpAny_typeOf (hT _ rfl) ?_)
  have h1 : Builtin.List.listSameRef (.ref S) (.ref z) = false := by simp [Builtin.List.listSameRef, Ne.symm hzS]
  have h2 : (Value.type "zip" == Value.type "list") = false := by decide
  have h3 : (Value.type "zip" == Value.type "tuple") = false := by decide
  simp only [h1, h2, h3, Bool.or_false, Bool.false_eq_true, if_false]
  refine wpAny_bind (wpAny_pyIter_zip Z₂.hz ?_)
  refine wpAny_bind (wpAny_holding ?_)
  unfold Builtin.List.listLengthHint
  refine wpAny_bind (wpAny_specialOf (hT _ rfl) zip_no_len ?_)
  show wpAny _ _ (specialOf (Value.ref z) (Str.ofString "__length_hint__") >>= _) _ _ _
  refine wpAny_bind (wpAny_specialOf (hT _ rfl) zip_no_hint ?_)
  refine wpAny_pure ?_
  show wpAny _ _ (rule "list.extend.makes-room" >>= fun _ => Builtin.List.listTouch (.ref S) >>= fun _ => again (.builtin "list.extend.loop" ⟨[.ref S, .ref z, .none], []⟩)) _ _ _
  refine wpAny_bind (wpAny_rule ?_)
  refine wpAny_bind ?_
  show wpAny _ _ (updateSeq S (·.push .none) >>= fun _ => updateSeq S (·.pop)) _ _ _
  refine wpAny_bind (wpAny_updateSeq hS₂ rfl ?_)
  have hS₃ := Heap.get?_update_self (Obj.mapSeq (·.push Value.none)) hS₂ rfl
  refine wpAny_updateSeq (hz := by seq_fits) hS₃ rfl ?_
  have hS₄ := Heap.get?_update_self (Obj.mapSeq (·.pop)) hS₃ rfl
  have oth₂ : ∀ b o, b ≠ S → g₂.get? b = some o → ((g₂.update S (Obj.mapSeq (·.push Value.none))).update S (Obj.mapSeq (·.pop))).get? b = some o :=
    fun b o hb e => (Heap.get?_update_other _ _ (Ne.symm hb)).trans ((Heap.get?_update_other _ _ (Ne.symm hb)).trans e)
  have Z₄ := Z₂.keep (h' := (g₂.update S (Obj.mapSeq (·.push Value.none))).update S (Obj.mapSeq (·.pop))) fun a ha o e => oth₂ a o (off a ha) e
  have T₄ : ∃ c₄, ((g₂.update S (Obj.mapSeq (·.push Value.none))).update S (Obj.mapSeq (·.pop))).get? S = some (lis #[] c₄) := ⟨_, hS₄⟩
  clear hS₄
  obtain ⟨c₄, hS₄⟩ := T₄
  generalize (g₂.update S (Obj.mapSeq (·.push Value.none))).update S (Obj.mapSeq (·.pop)) = g₄ at hS₄ oth₂ Z₄ ⊢
  refine wpAny_pure ⟨plainId_quiet F.plain_extend_loop _, ext_zip3 (A := A.in1) hh Z₄ hS₄ off fun T0 T1 T2 h' c' a1 a2 a3 kp eS p0 p1 p2 => ?_⟩
  refine ⟨rfl, hQ T0 T1 T2 h' c' a1 a2 a3 (fun b o n1 n2 n3 n4 e => ?_) eS p0 p1 p2⟩
  have nb : b ≠ S := fun q => by have := Heap.lt_size e; rw [hn, q] at this; exact Nat.lt_irrefl _ this
  exact (kp b o nb n1 n2 n3 n4 (oth₂ b o nb (oth b o nb (old₀ b o e)))).1
noncomputable abbrev pairO (a b : Value) : Obj := { cls := .type "tuple", data := .seq #[a, b] }
theorem list_zipW {z l1 l2 : Addr} {x0 x1 x2 y0 y1 y2 : Value} {Q : Value → Shared → Prop} (hh : A.handled = none) (F : Fr h₀ L s.heap m) (N : News h₀ L s.heap news) (Z : ZipW s.heap L z l1 l2 #[x0, x1, x2] #[y0, y1, y2] h₀ news)
    (h : ∀ P T0 T1 T2 c h', Fr h₀ L h' m → News h₀ L h' ((P, listOf #[.ref T0, .ref T1, .ref T2] c) :: (T2, pairO x2 y2) :: (T1, pairO x1 y1) :: (T0, pairO x0 y0) :: news) →
      (∀ q ∈ news, q.1 < P) → (∀ q ∈ news, q.1 < T0) → (∀ q ∈ (T0, pairO x0 y0) :: news, q.1 < T1) → (∀ q ∈ (T1, pairO x1 y1) :: (T0, pairO x0 y0) :: news, q.1 < T2) → @LT.lt Nat _ P T0 → @LT.lt Nat _ P T1 → @LT.lt Nat _ P T2 → Q (.ref P) { s with heap := h' }) :
    wpAny (model prog w) A (call (.type "list") [.ref z]) Q E s := by
  obtain ⟨n, ⟨st, rfl⟩, bl, bL, b0⟩ := Z
  refine list_zip3 hh st fun T0 T1 T2 h' c' a1 a2 a3 kp eS p0 p1 p2 => ?_
  have nb : ∀ b, b < n → b ≠ n + 4 ∧ b ≠ n + 3 ∧ b ≠ n ∧ b ≠ n + 1 := fun b hb => by
    have hb' : @LT.lt Nat _ b n := hb
    refine ⟨?_, ?_, ?_, ?_⟩ <;> (show @Ne Nat _ _; exact Nat.ne_of_lt (by omega))
  have old : ∀ b o, b < n → s.heap.get? b = some o → h'.get? b = some o := fun b o hb e => kp b o (nb b hb).1 (nb b hb).2.1 (nb b hb).2.2.1 (nb b hb).2.2.2 e
  have F' : Fr h₀ L h' m := ⟨F.ns.at' fun o e => old L o bL e, fun b o e => old b o (b0 b o e) (F.keep b o e), F.above⟩
  have fresh : ∀ a, s.heap.objs.size ≤ a → h₀.get? a = none ∧ a ≠ L := fun a ha => ⟨by
    cases e : h₀.get? a with
    | none => rfl
    | some o => exact absurd (Heap.lt_size (F.keep a o e)) (Nat.not_lt.mpr ha), fun e => by
      rw [e] at ha; exact Nat.not_lt.mpr ha F.ns.lt⟩
  have lS : ∀ q ∈ news, q.1 < s.heap.objs.size := fun q hq => Heap.lt_size (N q hq).1
  have l01 := Nat.le_of_lt a1
  have l02 := Nat.le_of_lt (Nat.lt_trans a1 a2)
  have l03 := Nat.le_of_lt (Nat.lt_trans (Nat.lt_trans a1 a2) a3)
  refine h s.heap.objs.size T0 T1 T2 c' h' F' (fun q hq => ?_) lS (fun q hq => Nat.lt_trans (lS q hq) a1) (fun q hq => ?_) (fun q hq => ?_) a1 (Nat.lt_trans a1 a2) (Nat.lt_trans (Nat.lt_trans a1 a2) a3)
  · rcases List.mem_cons.mp hq with rfl | hq
    · exact ⟨eS, (fresh _ (Nat.le_refl _)).2, (fresh _ (Nat.le_refl _)).1⟩
    · rcases List.mem_cons.mp hq with rfl | hq
      · exact ⟨p2, (fresh _ l03).2, (fresh _ l03).1⟩
      · rcases List.mem_cons.mp hq with rfl | hq
        · exact ⟨p1, (fresh _ l02).2, (fresh _ l02).1⟩
        · rcases List.mem_cons.mp hq with rfl | hq
          · exact ⟨p0, (fresh _ l01).2, (fresh _ l01).1⟩
          · exact ⟨old _ _ (bl q hq) (N q hq).1, (N q hq).2⟩
  · rcases List.mem_cons.mp hq with rfl | hq
    · exact a2
    · exact Nat.lt_trans (lS q hq) (Nat.lt_trans a1 a2)
  · rcases List.mem_cons.mp hq with rfl | hq
    · exact a3
    · rcases List.mem_cons.mp hq with rfl | hq
      · exact Nat.lt_trans a2 a3
      · exact Nat.lt_trans (lS q hq) (Nat.lt_trans (Nat.lt_trans a1 a2) a3)
end
end
end
section
set_option maxRecDepth 100000
section
open PySem PySem.W PySem.Calls PyProof.Rows PyProof.Rows.LCg
/-- an element's end: nothing new is kept -/
noncomputable def ZEnd (h₀ : Heap) (L : Addr) (m : Str → Option Value) (s : Shared) (all : List (Addr × Obj)) (rest : Value → Prop) (y : Value) (s' : Shared) : Prop :=
  ∃ h' tk, s' = { s with heap := h', toks := tk } ∧ Fr h₀ L h' m ∧ News h₀ L h' all ∧ rest y
theorem zEnd {h₀ h' : Heap} {L : Addr} {m : Str → Option Value} {s : Shared} {all : List (Addr × Obj)} {rest : Value → Prop} {y : Value} {tk : Nat} (F : Fr h₀ L h' m) (N : News h₀ L h' all) (r : rest y) :
    ZEnd h₀ L m s all rest y { s with heap := h', toks := tk } := ⟨h', tk, rfl, F, N, r⟩
/-- the turns of a comprehension over a zip; `IT`: the zip's own objects -/
noncomputable def ZRest (prog : Program) (w : World) (A : Around) (h₀ : Heap) (L : Addr) (m : Str → Option Value) (env : Env) (elt : PySem.Expr) (a b : Str) (scope : Scope) (cl : List (Str × Addr)) (s : Shared) (news : List (Addr × Obj))
    (Fin : List Value → Prop) : List (Value × Value) → List Value → Prop
  | [], ys => Fin ys
  | p :: r, ys => ∀ IT C oC D m₂ h tk (E' : Value → Shared → Prop), NsObj oC m₂ → m₂ a = some p.1 → m₂ b = some p.2 → Fr h₀ L h m → News h₀ L h ((C, oC) :: (D, lst ys) :: (news ++ IT)) →
      wpAny (model prog w) A (eval elt (compEnvC scope cl C env)) (ZEnd h₀ L m { s with heap := h, toks := tk } ((C, oC) :: (D, lst ys) :: (news ++ IT)) (fun y => ZRest prog w A h₀ L m env elt a b scope cl s news Fin r (ys ++ [y]))) E' { s with heap := h, toks := tk }
theorem ZSt.pack {h h₀ : Heap} {L z TI TO i1 i2 l1 l2 : Addr} {f0 f1 : Value} {k : Nat} {xs ys : Array Value} (Z : ZSt h z TI TO i1 i2 l1 l2 f0 f1 k xs ys) (fr : ∀ c ∈ [z, TI, TO, i1, i2, l1, l2], c ≠ L ∧ h₀.get? c = none) :
    ∃ IT : List (Addr × Obj), (∀ q ∈ IT, h.get? q.1 = some q.2 ∧ q.1 ≠ L ∧ h₀.get? q.1 = none) ∧ ∀ h'', (∀ q ∈ IT, h''.get? q.1 = some q.2) → ZSt h'' z TI TO i1 i2 l1 l2 f0 f1 k xs ys := by
  have st : ∀ c ∈ [z, TI, TO, i1, i2, l1, l2], ∃ o, h.get? c = some o := by
    intro c hc
    obtain ⟨_, ez, eTI, ⟨_, _, eTO⟩, e1, e2⟩ := Z
    simp only [List.mem_cons, List.not_mem_nil, or_false] at hc
    rcases hc with rfl | rfl | rfl | rfl | rfl | rfl | rfl
    · exact ⟨_, ez⟩
    · exact ⟨_, eTI⟩
    · exact ⟨_, eTO⟩
    · exact e1.some.1
    · exact e2.some.1
    · exact e1.some.2
    · exact e2.some.2
  refine ⟨[z, TI, TO, i1, i2, l1, l2].filterMap fun c => (h.get? c).map fun o => (c, o), fun q hq => ?_, fun h'' kq => Z.keep fun c hc o e => kq (c, o) (List.mem_filterMap.mpr ⟨c, hc, by rw [e]; rfl⟩)⟩
  obtain ⟨c, hc, e⟩ := List.mem_filterMap.mp hq
  obtain ⟨o, eo⟩ := st c hc
  rw [eo] at e
  cases e
  exact ⟨eo, fr c hc⟩
section
variable {prog : Program} {w : World} {A : Around} {E : Value → Shared → Prop} {s : Shared} {h₀ : Heap} {L : Addr} {m : Str → Option Value} {env : Env} {news : List (Addr × Obj)}
theorem ZRest.nil {elt : PySem.Expr} {a b : Str} {scope : Scope} {cl : List (Str × Addr)} {Fin : List Value → Prop} {ys : List Value} (h : Fin ys) : ZRest prog w A h₀ L m env elt a b scope cl s news Fin [] ys := h
theorem ZRest.cons {elt : PySem.Expr} {a b : Str} {scope : Scope} {cl : List (Str × Addr)} {Fin : List Value → Prop} {p : Value × Value} {r : List (Value × Value)} {ys : List Value}
    (h : ∀ IT C oC D m₂ h tk (E' : Value → Shared → Prop), NsObj oC m₂ → m₂ a = some p.1 → m₂ b = some p.2 → Fr h₀ L h m → News h₀ L h ((C, oC) :: (D, lst ys) :: (news ++ IT)) →
      wpAny (model prog w) A (eval elt (compEnvC scope cl C env)) (ZEnd h₀ L m { s with heap := h, toks := tk } ((C, oC) :: (D, lst ys) :: (news ++ IT)) (fun y => ZRest prog w A h₀ L m env elt a b scope cl s news Fin r (ys ++ [y]))) E' { s with heap := h, toks := tk }) :
    ZRest prog w A h₀ L m env elt a b scope cl s news Fin (p :: r) ys := h
theorem zc_block {elt iter : PySem.Expr} {a b : Str} {pa pb tp : Pos} {kk : Nat} {scope : Scope} {cl : List (Str × Addr)} {pos : Pos} {s₂ : Shared} {z TI TO i1 i2 l1 l2 : Addr} {xs ys₀ : Array Value} {vs : List (Value × Value)}
    {Fin : List Value → Prop} {RR : Value → Addr → Result → Shared → Prop}
    (hh : A.handled = none) (Z : ZSt s₂.heap z TI TO i1 i2 l1 l2 .none (.bool false) 0 xs ys₀) (hsz : vs.length ≤ sizeLine)
    (hx : ∀ (i : Nat) (p : Value × Value), vs[i]? = some p → xs[i]? = some p.1 ∧ ys₀[i]? = some p.2) (hend : xs[vs.length]? = none)
    (fr : ∀ c ∈ [z, TI, TO, i1, i2, l1, l2], c ≠ L ∧ h₀.get? c = none) (ofn : ∀ q ∈ news, q.1 ≠ z ∧ q.1 ≠ TO ∧ q.1 ≠ i1 ∧ q.1 ≠ i2)
    (hcell : ∀ y ∈ scope.names, y.2 ≠ .cell) (hkind : scope.kind = .function) (hxa : scope.names.lookup a = some .local) (hxb : scope.names.lookup b = some .local) (hab : ¬ a = b)
    (F : Fr h₀ L s₂.heap m) (N : News h₀ L s₂.heap news)
    (R : ZRest prog w A h₀ L m env elt a b scope cl s₂ news Fin vs [])
    (hRR : ∀ D C h tk m' ys, Fr h₀ L h m → News h₀ L h ((D, lst ys) :: news) → Off1 D news → h.Ns C m' → h₀.get? C = none → h₀.get? D = none → C ≠ L → D ≠ L → C ≠ D → (∀ p ∈ news, p.1 ≠ C) → Fin ys → RR (.ref D) C (.ok .next) { s₂ with heap := h, toks := tk }) :
    wpAny (model prog w) A (newList []) (fun acc s₃ => wpAny (model prog w) A (newFunctionEnv scope env.globals cl [] env.qual none .none (some env)) (fun cenv s₄ =>
      codeAny (model prog w) A (.compStart (.ListComp elt [⟨.Tuple [.Name a pa, .Name b pb] kk tp, iter, [], 0⟩] scope pos) 0 (.ref z) acc { cenv with scope := relabel scope env }) (RR acc cenv.locals) s₄) E s₃) E s₂ := by
  refine wpAny_newObj_type (wpAny_newFunctionEnv hcell (by intro y hy; simp at hy) (fun h₁ hns₁ hsb₁ => ?_) hkind)
  dsimp only at hns₁ hsb₁ ⊢
  generalize hH2 : s₂.heap.push { cls := .type "list", dict := none, data := .seq ([] : List Value).toArray } = H2 at hns₁ hsb₁ ⊢
  have hC : H2.objs.size = s₂.heap.objs.size + 1 := by rw [← hH2, Heap.size_push]
  have below : ∀ b, b < s₂.heap.objs.size → b ≠ H2.objs.size ∧ b ≠ s₂.heap.objs.size := fun b hb => ⟨by rw [hC]; exact Nat.ne_of_lt (Nat.lt_succ_of_lt hb), Nat.ne_of_lt hb⟩
  have hDC : s₂.heap.objs.size ≠ H2.objs.size := by rw [hC]; exact Nat.ne_of_lt (Nat.lt_succ_self _)
  have old : ∀ b o, s₂.heap.get? b = some o → h₁.get? b = some o := fun b o e => hsb₁.extBut b o (below b (Heap.lt_size e)).1 (Heap.get?_push_of_some _ (hH2 ▸ Heap.get?_push_of_some _ e))
  have hacc : h₁.get? s₂.heap.objs.size = some (lst []) := hsb₁.extBut _ _ hDC (Heap.get?_push_of_some _ (hH2 ▸ Heap.get?_push_size _ rfl))
  have fresh : ∀ a, s₂.heap.objs.size ≤ a → s₂.heap.get? a = none := fun a ha => by
    cases e : s₂.heap.get? a with
    | none => rfl
    | some o' => exact absurd (Heap.lt_size e) (Nat.not_lt.mpr ha)
  have fresh₀ : ∀ a, s₂.heap.objs.size ≤ a → h₀.get? a = none := fun a ha => by
    cases e : h₀.get? a with
    | none => rfl
    | some o' => have := F.keep a o' e; rw [fresh a ha] at this; cases this
  have hD₀ : h₀.get? s₂.heap.objs.size = none := fresh₀ _ (Nat.le_refl _)
  have hC₀ : h₀.get? H2.objs.size = none := fresh₀ _ (by rw [hC]; exact Nat.le_succ _)
  have hLlt : L < s₂.heap.objs.size := F.ns.lt
  have hDL : s₂.heap.objs.size ≠ L := Ne.symm (below L hLlt).2
  have hCL : H2.objs.size ≠ L := Ne.symm (below L hLlt).1
  have zb : ∀ c ∈ [z, TI, TO, i1, i2, l1, l2], c ≠ H2.objs.size ∧ c ≠ s₂.heap.objs.size := fun c hc => below c (Z.lt c hc)
  have nb : ∀ q ∈ news, q.1 ≠ H2.objs.size ∧ q.1 ≠ s₂.heap.objs.size := fun q hq => below _ (Heap.lt_size (N q hq).1)
  have mz : z ∈ [z, TI, TO, i1, i2, l1, l2] := by simp
  have mTO : TO ∈ [z, TI, TO, i1, i2, l1, l2] := by simp
  have m1 : i1 ∈ [z, TI, TO, i1, i2, l1, l2] := by simp
  have m2 : i2 ∈ [z, TI, TO, i1, i2, l1, l2] := by simp
  generalize hDn : s₂.heap.objs.size = D at *
  generalize H2.objs.size = C at *
  have frk : ∀ {h h' : Heap}, Fr h₀ L h m → (∀ c o, c ≠ z → c ≠ TO → c ≠ i1 → c ≠ i2 → h.get? c = some o → h'.get? c = some o) → Fr h₀ L h' m := fun F k =>
    ⟨F.ns.at' fun o e => k L o (fr z mz).1.symm (fr TO mTO).1.symm (fr i1 m1).1.symm (fr i2 m2).1.symm e, fun c o e => k c o (fun q => by rw [q, (fr z mz).2] at e; cases e) (fun q => by rw [q, (fr TO mTO).2] at e; cases e) (fun q => by rw [q, (fr i1 m1).2] at e; cases e) (fun q => by rw [q, (fr i2 m2).2] at e; cases e) (F.keep c o e), F.above⟩
  have loop : ∀ s₃ : Shared, s₃ = { s₂ with heap := h₁, toks := s₂.toks + ([] : List (Str × Value)).length } →
      codeAny (model prog w) A (.compLoop (.ListComp elt [⟨.Tuple [.Name a pa, .Name b pb] kk tp, iter, [], 0⟩] scope pos) 0 (.ref z) (.ref D) (compEnvC scope cl C env)) (RR (.ref D) C) s₃ := by
    rintro s₃ rfl
    refine LCp.codeAny_compLoop_pair
      (fun k s' => ∃ h' tk i ys m', s' = { s₂ with heap := h', toks := tk } ∧ i ≤ vs.length ∧ k = vs.length + 1 - i ∧ ys.length = i ∧ ZSt h' z TI TO i1 i2 l1 l2 .none (.bool false) i xs ys₀ ∧ Fr h₀ L h' m ∧ h'.Ns C m' ∧
        News h₀ L h' ((D, lst ys) :: news) ∧ ZRest prog w A h₀ L m env elt a b scope cl s₂ news Fin (vs.drop i) ys) ?_ (vs.length + 1)
      ⟨h₁, _, 0, [], _, rfl, Nat.zero_le _, rfl, rfl, Z.keep fun c _ o e => old c o e, F.keeps old, hns₁, fun p hp => ?_, by rw [List.drop_zero]; exact R⟩
    · rintro k s' ⟨h', tk, i, ys, m', rfl, hi, rfl, hyl, Z', F', hn', N', R'⟩
      have nk : ∀ {h h' : Heap} {l : List (Addr × Obj)}, (∀ q ∈ l, q ∈ (D, lst ys) :: news) → News h₀ L h l → (∀ c o, c ≠ z → c ≠ TO → c ≠ i1 → c ≠ i2 → h.get? c = some o → h'.get? c = some o) → News h₀ L h' l := fun sub N k q hq => by
        have z := N q hq
        refine ⟨k _ _ ?_ ?_ ?_ ?_ z.1, z.2⟩ <;>
        · rcases List.mem_cons.mp (sub q hq) with rfl | hq
          · first | exact (zb _ mz).2.symm | exact (zb _ mTO).2.symm | exact (zb _ m1).2.symm | exact (zb _ m2).2.symm
          · first | exact (ofn q hq).1 | exact (ofn q hq).2.1 | exact (ofn q hq).2.2.1 | exact (ofn q hq).2.2.2
      have hCz : C ≠ z ∧ C ≠ TO ∧ C ≠ i1 ∧ C ≠ i2 := ⟨(zb z mz).1.symm, (zb TO mTO).1.symm, (zb i1 m1).1.symm, (zb i2 m2).1.symm⟩
      by_cases hlt : i < vs.length
      · obtain ⟨p, hp⟩ : ∃ p, vs[i]? = some p := ⟨_, List.getElem?_eq_getElem hlt⟩
        obtain ⟨px, py⟩ := hx i p hp
        refine zip_next Z' (zip_free_item Z' px py fun h₂ Z₂ p₂ k₂ => ⟨_, rfl, ?_⟩)
        have N₂ := nk (fun _ h => h) N' k₂
        have F₂ := frk F' k₂
        have hn₂ := hn'.at' fun o e => k₂ C o hCz.1 hCz.2.1 hCz.2.2.1 hCz.2.2.2 e
        have Tn : ∀ c ∈ [z, TI, TO, i1, i2, l1, l2], h'.objs.size ≠ c := fun c hc => Nat.ne_of_gt (Z'.lt c hc)
        refine wpAny_letOwnedTupleGo_zip Z₂.hz fun h₃ hz₃ b₃ => ?_
        have up₃ : ∀ c o, c ≠ z → h₂.get? c = some o → h₃.get? c = some o := fun c o hc e => b₃.extBut c o hc e
        have k₃ : ∀ c o, c ≠ z → c ≠ TO → c ≠ i1 → c ≠ i2 → h₂.get? c = some o → h₃.get? c = some o := fun c o c1 _ _ _ e => up₃ c o c1 e
        obtain ⟨DD, _, hTI₂, ⟨ta, tb, hTO₂⟩, hi1₂, hi2₂⟩ := Z₂
        have Z₃ : ZSt h₃ z TI TO i1 i2 l1 l2 .none (.bool false) (i + 1) xs ys₀ := ⟨DD, hz₃, up₃ _ _ DD.TIz hTI₂, ⟨ta, tb, up₃ _ _ DD.TOz hTO₂⟩, hi1₂.keep (fun o e => up₃ _ o DD.i1z e) (fun o e => up₃ _ o DD.l1z e), hi2₂.keep (fun o e => up₃ _ o DD.i2z e) (fun o e => up₃ _ o DD.l2z e)⟩
        have N₃ := nk (fun _ h => h) N₂ k₃
        have F₃ := frk F₂ k₃
        have hn₃ := hn₂.at' fun o e => up₃ C o hCz.1 e
        have p₃ : IsPair h₃ h'.objs.size p.1 p.2 := up₃ _ _ (Tn z mz) p₂
        have ht : IsTup h₃ h'.objs.size #[p.1, p.2] := ⟨_, p₃, rfl, _, rfl⟩
        refine assign_Tuple_tuple hh ht rfl rfl fun h₅ he => ?_
        have he' : ∀ b o, h₃.get? b = some o → h₅.get? b = some o := fun b o e => he b o (Nat.ne_of_lt (Heap.lt_size e)) e
        refine assignInOrder_cons (wpAny_assign_Name (wpAny_storeName_local (lookup_relabel_local hxa) (hn₃.at' fun o e => he' _ o e) (fun h₆ hn₆ hs₆ => ?_) (by simp [compEnvC, relabel, hkind])))
        refine assignInOrder_cons (wpAny_assign_Name (wpAny_storeName_local (lookup_relabel_local hxb) hn₆ (fun h₇ hn₇ hs₇ => ?_) (by simp [compEnvC, relabel, hkind])))
        refine assignInOrder_nil ?_
        have old7 : ∀ b o, b ≠ C → h₃.get? b = some o → h₇.get? b = some o := fun b o hb e => hs₇.extBut b o hb (hs₆.extBut b o hb (he' b o e))
        have Z₇ := Z₃.keep (h' := h₇) fun c hc o e => old7 c o (zb c hc).1 e
        obtain ⟨oC, heC, hoC⟩ := ns_obj hn₇
        have F₇ : Fr h₀ L h₇ m := ((F₃.keeps he').change hs₆ hCL hC₀).change hs₇ hCL hC₀
        -- the zip's own objects
        obtain ⟨IT, itN, itK⟩ := Z₇.pack fr
        have N₇ : News h₀ L h₇ ((C, oC) :: (D, lst ys) :: (news ++ IT)) := fun q hq => by
          rcases List.mem_cons.mp hq with rfl | hq
          · exact ⟨heC, hCL, hC₀⟩
          · rcases List.mem_cons.mp hq with rfl | hq
            · exact ⟨old7 _ _ hDC (N₃ _ List.mem_cons_self).1, hDL, hD₀⟩
            · rcases List.mem_append.mp hq with hq | hq
              · have zz := N₃ q (List.mem_cons_of_mem _ hq)
                exact ⟨old7 _ _ (nb q hq).1 zz.1, zz.2⟩
              · exact itN q hq
        have hdrop : vs.drop i = p :: vs.drop (i + 1) := by
          rw [List.drop_eq_getElem_cons hlt]
          congr 1
          exact Option.some.inj ((List.getElem?_eq_getElem hlt).symm.trans hp)
        rw [hdrop] at R'
        refine wpAny_mono (R' IT C oC D _ h₇ _ _ hoC (by simp [hab]) (by simp) F₇ N₇) (fun y s₄ h₄ => ?_) fun _ _ e => e
        obtain ⟨h₄, tk₄, rfl, F₄, N₄, R₄⟩ := h₄
        have zC := (N₄ (C, oC) List.mem_cons_self).1
        have zD := (N₄ (D, lst ys) (List.mem_cons_of_mem _ List.mem_cons_self)).1
        have N₄' : News h₀ L h₄ news := fun q hq => N₄ q (List.mem_cons_of_mem _ (List.mem_cons_of_mem _ (List.mem_append_left _ hq)))
        have Z₄ := itK h₄ fun q hq => (N₄ q (List.mem_cons_of_mem _ (List.mem_cons_of_mem _ (List.mem_append_right _ hq)))).1
        refine append_at (hsz := by show ys.toArray.size ≤ sizeLine; rw [List.size_toArray, hyl]; exact Nat.le_trans hi hsz) zD fun h₈ hs₈ hD₈ => ?_
        refine ⟨vs.length + 1 - (i + 1), by omega, h₈, tk₄, i + 1, ys ++ [y], _, rfl, hlt, rfl, by rw [List.length_append, List.length_singleton, hyl], Z₄.keep fun c hc o e => hs₈.extBut c o (zb c hc).2 e, F₄.change hs₈ hDL hD₀,
          (hoC.ns zC).sameBut hs₈ (Ne.symm hDC), fun q hq => ?_, R₄⟩
        rcases List.mem_cons.mp hq with rfl | hq
        · exact ⟨hD₈.trans (congrArg some (lst_snoc ys y)), hDL, hD₀⟩
        · exact ⟨hs₈.extBut _ _ (nb q hq).2 (N₄' q hq).1, (N₄' q hq).2⟩
      · have hin : i = vs.length := Nat.le_antisymm hi (Nat.not_lt.mp hlt)
        subst hin
        rw [List.drop_eq_nil_of_le (Nat.le_refl _)] at R'
        refine zip_next Z' (zip_free_end hh Z' hend fun h₂ e k₂ he => ?_)
        obtain ⟨oe, he, hc⟩ := he
        refine ⟨e, oe, rfl, he, hc, ?_⟩
        have k₂' : ∀ c o, c ≠ z → c ≠ TO → c ≠ i1 → c ≠ i2 → h'.get? c = some o → h₂.get? c = some o := fun c o c1 _ c3 _ x => k₂ c o c1 c3 x
        exact hRR D C h₂ tk _ ys (frk F' k₂') (nk (fun _ h => h) N' k₂') (Off3.of (I := C) (C := C) (D := D) (l := news) fun q hq => ⟨(nb q hq).1, (nb q hq).1, (nb q hq).2⟩).one (hn'.at' fun o e => k₂ C o hCz.1 hCz.2.2.1 e) hC₀ hD₀ hCL hDL (Ne.symm hDC) (fun q hq => (nb q hq).1) R'
    · rcases List.mem_cons.mp hp with rfl | hp
      · exact ⟨hacc, hDL, hD₀⟩
      · exact ⟨old _ _ (N p hp).1, (N p hp).2⟩
  exact codeAny_compStart_list (loop _ rfl) (wpAny_pyIter_zip (Z.keep fun c _ o e => old c o e).hz (loop _ rfl))
noncomputable def ZSrc (prog : Program) (w : World) (A : Around) (h₀ : Heap) (L : Addr) (m : Str → Option Value) (env : Env) (elt : PySem.Expr) (a b : Str) (scope : Scope) (cl : List (Str × Addr)) (Fin : Shared → List Value → List (Addr × Obj) → Prop) (xv : Value) (s₁ : Shared) : Prop :=
  ∃ z l1 l2 o1 o2 x0 x1 x2 y0 y1 y2 news, xv = .ref z ∧ A.handled = none ∧ Fr h₀ L s₁.heap m ∧ News h₀ L s₁.heap news ∧ ZipW s₁.heap L z l1 l2 #[x0, x1, x2] #[y0, y1, y2] h₀ news ∧ (l1, o1) ∈ news ∧ (l2, o2) ∈ news ∧
    ZRest prog w A h₀ L m env elt a b scope cl s₁ news (fun ys => Fin s₁ ys news) [(x0, y0), (x1, y1), (x2, y2)] []
theorem zSrc {elt : PySem.Expr} {a b : Str} {scope : Scope} {cl : List (Str × Addr)} {Fin : Shared → List Value → List (Addr × Obj) → Prop} {z l1 l2 : Addr} {o1 o2 : Obj} {x0 x1 x2 y0 y1 y2 : Value} {s₁ : Shared}
    (hh : A.handled = none) (F : Fr h₀ L s₁.heap m) (N : News h₀ L s₁.heap news) (Z : ZipW s₁.heap L z l1 l2 #[x0, x1, x2] #[y0, y1, y2] h₀ news) (m1 : (l1, o1) ∈ news) (m2 : (l2, o2) ∈ news)
    (h : ZRest prog w A h₀ L m env elt a b scope cl s₁ news (fun ys => Fin s₁ ys news) [(x0, y0), (x1, y1), (x2, y2)] []) : ZSrc prog w A h₀ L m env elt a b scope cl Fin (.ref z) s₁ :=
  ⟨z, l1, l2, o1, o2, x0, x1, x2, y0, y1, y2, news, rfl, hh, F, N, Z, m1, m2, h⟩
theorem listComp_zip {elt iter : PySem.Expr} {a b : Str} {pa pb tp : Pos} {kk : Nat} {scope : Scope} {cl : List (Str × Addr)} {pos : Pos} {Q : Value → Shared → Prop} (_F₀ : Fr h₀ L s.heap m)
    (hclos : closureFor scope env = pure cl) (hcell : ∀ y ∈ scope.names, y.2 ≠ .cell) (hkind : scope.kind = .function)
    (hnames : ∀ y ∈ scope.names, y.2 = .local → scope.names.lookup y.1 = some .local) (hxa : scope.names.lookup a = some .local) (hxb : scope.names.lookup b = some .local) (hab : ¬ a = b)
    (h : wpAny (model prog w) A (eval iter env) (ZSrc prog w A h₀ L m env elt a b scope cl (fun s₂ => FinE h₀ L m s₂ Q)) E s)
    (hs : ∀ x, foldedSetIterable iter env x = pure x := by intro _; rfl) :
    wpAny (model prog w) A (eval (.ListComp elt [⟨.Tuple [.Name a pa, .Name b pb] kk tp, iter, [], 0⟩] scope pos) env) Q E s := by
  rw [eval_ListComp]
  refine wpAny_comprehension_free (use := none) rfl hs hclos hkind hnames (wpAny_mono h (fun xv s₁ h₁ => ?_) fun _ _ e => e)
  obtain ⟨z, l1, l2, o1, o2, x0, x1, x2, y0, y1, y2, news, rfl, hh, F, N, ⟨n, ⟨st, rfl⟩, bl, bL, b0⟩, m1, m2, R⟩ := h₁
  have fr0 : ∀ c, n ≤ c → c ≠ L ∧ h₀.get? c = none := fun c hc => ⟨fun e => by rw [e] at hc; exact Nat.not_lt.mpr hc bL, by
    cases e : h₀.get? c with
    | none => rfl
    | some o => exact absurd (b0 c o e) (Nat.not_lt.mpr hc)⟩
  refine wpAny_pyIter_zip st.hz ?_
  refine zc_block hh st (vs := [(x0, y0), (x1, y1), (x2, y2)]) (Nat.le_of_ble_eq_true rfl) (fun i p hp => ?_) rfl (fun c hc => ?_) (fun q hq => ?_) hcell hkind hxa hxb hab F N R ?_
  · match i, hp with
    | 0, hp => cases hp; exact ⟨rfl, rfl⟩
    | 1, hp => cases hp; exact ⟨rfl, rfl⟩
    | 2, hp => cases hp; exact ⟨rfl, rfl⟩
    | k + 3, hp => cases hp
  · simp only [List.mem_cons, List.not_mem_nil, or_false] at hc
    rcases hc with rfl | rfl | rfl | rfl | rfl | rfl | rfl
    · exact fr0 _ (Nat.le_add_right _ _)
    · exact fr0 _ (Nat.le_add_right _ _)
    · exact fr0 _ (Nat.le_add_right _ _)
    · exact fr0 _ (Nat.le_refl _)
    · exact fr0 _ (Nat.le_add_right _ _)
    · exact (N _ m1).2
    · exact (N _ m2).2
  · have hb : @LT.lt Nat _ q.1 n := bl q hq
    refine ⟨?_, ?_, ?_, ?_⟩ <;> (show @Ne Nat _ _; exact Nat.ne_of_lt (by omega))
  · intro D C h tk m' ys F' N' o1 hn hC₀ hD₀ hCL hDL hCD offC fin
    refine ⟨m', hn, fun h'' hs'' => fin D h'' tk (F'.change hs'' hCL hC₀) (fun p hp => ?_) o1⟩
    refine ⟨hs''.extBut _ _ ?_ (N' p hp).1, (N' p hp).2⟩
    rcases List.mem_cons.mp hp with rfl | hp
    · exact Ne.symm hCD
    · exact offC p hp
end
end
end
section
set_option maxRecDepth 100000
section
open PySem PySem.W PySem.Calls PyProof.Rows PyProof.Rows.LCg
theorem hp3 {x0 x1 x2 : Value} (v : Value) : ((#[x0, x1, x2] : Array Value)[0]? = some v → v = x0) ∧ ((#[x0, x1, x2] : Array Value)[1]? = some v → v = x1) ∧ ((#[x0, x1, x2] : Array Value)[2]? = some v → v = x2) :=
  ⟨fun h => (Option.some.inj h).symm, fun h => (Option.some.inj h).symm, fun h => (Option.some.inj h).symm⟩
section
variable {prog : Program} {w : World} {A : Around} {s : Shared} {h₀ : Heap} {L : Addr} {m : Str → Option Value} {env : Env} {elt : PySem.Expr} {x y : Str} {scope : Scope} {cl : List (Str × Addr)} {S : List (Addr × Obj) → Prop} {P : Nat → Value → Prop} {Fin : List Value → List (Addr × Obj) → Prop} {news : List (Addr × Obj)}
/-- an element's walk: the frame, the list so far and what comes after go by letters -/
noncomputable def EltI (prog : Program) (w : World) (A : Around) (s : Shared) (h₀ : Heap) (L : Addr) (env : Env) (elt : PySem.Expr) (x : Str) (scope : Scope) (cl : List (Str × Addr)) (news : List (Addr × Obj)) (a c : Int) : Prop :=
  ∀ (t : Tok) (m' : Str → Option Value) (I : Addr) (oI : Obj) (C : Addr) (oC : Obj) (D : Addr) (oD : Obj) (m₂ : Str → Option Value) (h : Heap) (tk : Nat) (E' Q' : Value → Shared → Prop), NsObj oC m₂ → m₂ x = some (.int a t) → Fr h₀ L h m' → News h₀ L h ((I, oI) :: (C, oC) :: (D, oD) :: news) → Off3 I C D news → ((@Ne Nat I C) ∧ (@Ne Nat I D) ∧ (@Ne Nat C D)) →
    (∀ (t' : Tok) (h' : Heap) (tk' : Nat), Fr h₀ L h' m' → News h₀ L h' ((I, oI) :: (C, oC) :: (D, oD) :: news) → Q' (.int c t') { s with heap := h', toks := tk' }) →
    wpAny (model prog w) A (eval elt (compEnvC scope cl C env)) Q' E' { s with heap := h, toks := tk }
theorem rest1 {k i : Nat} {ys : List Value} {a c : Int} {t : Tok} (e : EltI prog w A s h₀ L env elt x scope cl news a c) (p : ∀ v, P i v → v = .int a t) (hS : S news)
    (r : ∀ u, CompRest prog w A h₀ L m env elt x scope cl s S P Fin k (i + 1) (ys ++ [.int c u]) news) : CompRest prog w A h₀ L m env elt x scope cl s S P Fin (k + 1) i ys news :=
  CompRest.succ fun v I oI C oC D m₂ h tk E' hv hC hx F N off ne => by
    cases p v hv
    exact e t m I oI C oC D _ m₂ h tk E' _ hC hx F N off ne fun t' h' tk' F' N' => compEnd_same F' N' off hS (r t')
/-- a comprehension over a written list of three ints -/
theorem rest3 {a0 a1 a2 c0 c1 c2 : Int} {t0 t1 t2 : Tok} (hP : ∀ v, (P 0 v → v = .int a0 t0) ∧ (P 1 v → v = .int a1 t1) ∧ (P 2 v → v = .int a2 t2)) (hS : S news)
    (e0 : EltI prog w A s h₀ L env elt x scope cl news a0 c0) (e1 : EltI prog w A s h₀ L env elt x scope cl news a1 c1) (e2 : EltI prog w A s h₀ L env elt x scope cl news a2 c2)
    (hf : ∀ u0 u1 u2, Fin [.int c0 u0, .int c1 u1, .int c2 u2] news) : CompRest prog w A h₀ L m env elt x scope cl s S P Fin 3 0 [] news :=
  rest1 e0 (fun v => (hP v).1) hS fun u0 => rest1 e1 (fun v => (hP v).2.1) hS fun u1 => rest1 e2 (fun v => (hP v).2.2) hS fun u2 => CompRest.zero (hf u0 u1 u2)
/-- one walk for all three -/
theorem rest3R {a0 a1 a2 c0 c1 c2 : Int} {t0 t1 t2 : Tok} (R : Int → Int → Prop) (hP : ∀ v, (P 0 v → v = .int a0 t0) ∧ (P 1 v → v = .int a1 t1) ∧ (P 2 v → v = .int a2 t2)) (hS : S news) (r0 : R a0 c0) (r1 : R a1 c1) (r2 : R a2 c2)
    (e : ∀ a c, R a c → EltI prog w A s h₀ L env elt x scope cl news a c)
    (hf : ∀ u0 u1 u2, Fin [.int c0 u0, .int c1 u1, .int c2 u2] news) : CompRest prog w A h₀ L m env elt x scope cl s S P Fin 3 0 [] news := rest3 hP hS (e _ _ r0) (e _ _ r1) (e _ _ r2) hf
/-- the same over pairs of ints -/
noncomputable def EltP (prog : Program) (w : World) (A : Around) (s : Shared) (h₀ : Heap) (L : Addr) (env : Env) (elt : PySem.Expr) (x y : Str) (scope : Scope) (cl : List (Str × Addr)) (news : List (Addr × Obj)) (a b c : Int) : Prop :=
  ∀ (t u : Tok) (m' : Str → Option Value) (I : Addr) (oI : Obj) (C : Addr) (oC : Obj) (D : Addr) (oD : Obj) (m₂ : Str → Option Value) (h : Heap) (tk : Nat) (E' Q' : Value → Shared → Prop), NsObj oC m₂ → m₂ x = some (.int a t) → m₂ y = some (.int b u) → Fr h₀ L h m' → News h₀ L h ((I, oI) :: (C, oC) :: (D, oD) :: news) → Off3 I C D news → ((@Ne Nat I C) ∧ (@Ne Nat I D) ∧ (@Ne Nat C D)) →
    (∀ (t' : Tok) (h' : Heap) (tk' : Nat), Fr h₀ L h' m' → News h₀ L h' ((I, oI) :: (C, oC) :: (D, oD) :: news) → Q' (.int c t') { s with heap := h', toks := tk' }) →
    wpAny (model prog w) A (eval elt (compEnvC scope cl C env)) Q' E' { s with heap := h, toks := tk }
theorem restP1 {k i j : Nat} {ys : List Value} {a b c : Int} {t u : Tok} {p : Addr} (e : EltP prog w A s h₀ L env elt x y scope cl news a b c) (hp : ∀ v, P i v → v = .ref p) (hm : (p, ({ cls := .type "tuple", data := .seq #[.int a t, .int b u] j } : Obj)) ∈ news) (hS : S news)
    (r : ∀ u, LCp.CompRestP prog w A h₀ L m env elt x y scope cl s S P Fin k (i + 1) (ys ++ [.int c u]) news) : LCp.CompRestP prog w A h₀ L m env elt x y scope cl s S P Fin (k + 1) i ys news :=
  LCp.CompRestP.succ fun v hv => ⟨p, _, _, _, j, hp v hv, hm, rfl, rfl, fun I oI C oC D m₂ h tk E' hC hx hy F N off ne =>
    e t u m I oI C oC D _ m₂ h tk E' _ hC hx hy F N off ne fun t' h' tk' F' N' => compEnd_same F' N' off hS (r t')⟩
theorem restP3 {a0 a1 a2 b0 b1 b2 c0 c1 c2 : Int} {t0 t1 t2 u0 u1 u2 : Tok} {p0 p1 p2 : Addr} {j0 j1 j2 : Nat} (R : Int → Int → Int → Prop) (hP : ∀ v, (P 0 v → v = .ref p0) ∧ (P 1 v → v = .ref p1) ∧ (P 2 v → v = .ref p2))
    (m0 : (p0, ({ cls := .type "tuple", data := .seq #[.int a0 t0, .int b0 u0] j0 } : Obj)) ∈ news) (m1 : (p1, ({ cls := .type "tuple", data := .seq #[.int a1 t1, .int b1 u1] j1 } : Obj)) ∈ news) (m2 : (p2, ({ cls := .type "tuple", data := .seq #[.int a2 t2, .int b2 u2] j2 } : Obj)) ∈ news)
    (hS : S news) (r0 : R a0 b0 c0) (r1 : R a1 b1 c1) (r2 : R a2 b2 c2)
    (e : ∀ a b c, R a b c → EltP prog w A s h₀ L env elt x y scope cl news a b c)
    (hf : ∀ u0 u1 u2, Fin [.int c0 u0, .int c1 u1, .int c2 u2] news) : LCp.CompRestP prog w A h₀ L m env elt x y scope cl s S P Fin 3 0 [] news :=
  restP1 (e _ _ _ r0) (fun v => (hP v).1) m0 hS fun u0 => restP1 (e _ _ _ r1) (fun v => (hP v).2.1) m1 hS fun u1 => restP1 (e _ _ _ r2) (fun v => (hP v).2.2) m2 hS fun u2 => LCp.CompRestP.zero (hf u0 u1 u2)
/-- the same over a zip of floats -/
noncomputable def EltZ (prog : Program) (w : World) (A : Around) (s : Shared) (h₀ : Heap) (L : Addr) (env : Env) (elt : PySem.Expr) (x y : Str) (scope : Scope) (cl : List (Str × Addr)) (news : List (Addr × Obj)) (f : UInt64 → UInt64 → UInt64) (a b : UInt64) : Prop :=
  ∀ (t u : Tok) (m' : Str → Option Value) (IT : List (Addr × Obj)) (C : Addr) (oC : Obj) (D : Addr) (oD : Obj) (m₂ : Str → Option Value) (h : Heap) (tk : Nat) (E' Q' : Value → Shared → Prop), NsObj oC m₂ → m₂ x = some (.float a t) → m₂ y = some (.float b u) → Fr h₀ L h m' → News h₀ L h ((C, oC) :: (D, oD) :: (news ++ IT)) →
    (∀ (t' : Tok) (h' : Heap) (tk' : Nat), Fr h₀ L h' m' → News h₀ L h' ((C, oC) :: (D, oD) :: (news ++ IT)) → Q' (.float (f a b) t') { s with heap := h', toks := tk' }) →
    wpAny (model prog w) A (eval elt (compEnvC scope cl C env)) Q' E' { s with heap := h, toks := tk }
theorem restZ1 {FinZ : List Value → Prop} {f : UInt64 → UInt64 → UInt64} {a b : UInt64} {t u : Tok} {r : List (Value × Value)} {ys : List Value} (e : EltZ prog w A s h₀ L env elt x y scope cl news f a b)
    (k : ∀ u, ZRest prog w A h₀ L m env elt x y scope cl s news FinZ r (ys ++ [.float (f a b) u])) : ZRest prog w A h₀ L m env elt x y scope cl s news FinZ ((.float a t, .float b u) :: r) ys :=
  ZRest.cons fun IT C oC D m₂ h tk E' hC hx hy F N => e t u m IT C oC D _ m₂ h tk E' _ hC hx hy F N fun t' h' tk' F' N' => zEnd F' N' (k t')
theorem restZ3 {FinZ : List Value → Prop} (f : UInt64 → UInt64 → UInt64) {a0 a1 a2 b0 b1 b2 : UInt64} {t0 t1 t2 u0 u1 u2 : Tok} (e : ∀ a b, EltZ prog w A s h₀ L env elt x y scope cl news f a b)
    (k : ∀ w0 w1 w2, FinZ [.float (f a0 b0) w0, .float (f a1 b1) w1, .float (f a2 b2) w2]) : ZRest prog w A h₀ L m env elt x y scope cl s news FinZ [(.float a0 t0, .float b0 u0), (.float a1 t1, .float b1 u1), (.float a2 t2, .float b2 u2)] [] :=
  restZ1 (e _ _) fun w0 => restZ1 (e _ _) fun w1 => restZ1 (e _ _) fun w2 => ZRest.nil (k w0 w1 w2)
end
end
end
section
open PySem PySem.W PyProof.Rows
set_option maxRecDepth 100000
section
set_option maxHeartbeats 8000000 in
theorem hl_ok {w : World} {mean : ExcName → Option Value} {mg mb : Str → Option Value} (p : Addr) (n : Nat) (r g b top rest : Int) (t1 t2 t3 tt tr : Tok) (hr : r.natAbs < 2 ^ 40) (hg : g.natAbs < 2 ^ 40) (hb : b.natAbs < 2 ^ 40) (htop : top ≠ 0) (htop0 : 0 < top) (htop1 : top < 2 ^ 40) (sx mi ov sg l1 lf q x0 y0 z0 g1 b1 both x y z : Int) (M m : Int) (hM : ∀ x : Int, (x = r ∨ x = g ∨ x = b) → (r ≤ x ∧ g ≤ x ∧ b ≤ x) → x = M) (hm : ∀ x : Int, (x = r ∨ x = g ∨ x = b) → (x ≤ r ∧ x ≤ g ∧ x ≤ b) → x = m) (R0 G0 B0 H0 S0 V0 R1 G1 B1 H1 S1 V1 D6 A1 A2 A3 P1 P2 P3 : UInt64) (h4x : x.natAbs < 2 ^ 40) (h4y : y.natAbs < 2 ^ 40) (h4z : z.natAbs < 2 ^ 40) (h4sx : sx.natAbs < 2 ^ 40) (h4ov : ov.natAbs < 2 ^ 40)
   (esx : (rest.fdiv 4).fmod 12 - 6 = sx) (emi : rest.fmod 2 = mi) (eov : (rest.fdiv 2).fmod 2 = ov) (esg : 1 - 2 * mi = sg) (el1 : top - M = l1) (elf : l1 - m = lf) (eq : ov * lf = q) (ex0 : r + q = x0) (ey0 : g1 + q = y0) (ez0 : b1 + q = z0)
   (hsg : sg.natAbs < 2 ^ 1024 - 2 ^ 970) (hov : ov.natAbs < 2 ^ 1024 - 2 ^ 970) (es1 : (if mi = 0 then g else b) = g1) (es2 : (if mi = 0 then b else g) = b1) (et : turnN both (sx.fmod 6).toNat (x0, y0, z0) = (x, y, z)) (hboth : ∀ X Y : Int, (X = x0 ∨ X = y0 ∨ X = z0) → (x0 ≤ X ∧ y0 ≤ X ∧ z0 ≤ X) → (Y = x0 ∨ Y = y0 ∨ Y = z0) → (Y ≤ x0 ∧ Y ≤ y0 ∧ Y ≤ z0) → X + Y = both)
   (eR0 : sh r top = R0) (eG0 : sh g top = G0) (eB0 : sh b top = B0) (eH0 : hueOf R0 G0 B0 = H0) (eL0 : light R0 G0 B0 = V0) (eS0 : satL R0 G0 B0 = S0) (z0 : grey R0 G0 B0 = false → ¬ Float64.isZero (rg R0 G0 B0) = true ∧ (fle (light R0 G0 B0) cHalf = true → ¬ Float64.isZero (Float64.add (fmax3 R0 G0 B0) (fmin3 R0 G0 B0)) = true) ∧ (fle (light R0 G0 B0) cHalf = false → ¬ Float64.isZero (Float64.sub (Float64.sub c2 (fmax3 R0 G0 B0)) (fmin3 R0 G0 B0)) = true))
   (eR1 : sh x top = R1) (eG1 : sh y top = G1) (eB1 : sh z top = B1) (eH1 : hueOf R1 G1 B1 = H1) (eL1 : light R1 G1 B1 = V1) (eS1 : satL R1 G1 B1 = S1) (z1 : grey R1 G1 B1 = false → ¬ Float64.isZero (rg R1 G1 B1) = true ∧ (fle (light R1 G1 B1) cHalf = true → ¬ Float64.isZero (Float64.add (fmax3 R1 G1 B1) (fmin3 R1 G1 B1)) = true) ∧ (fle (light R1 G1 B1) cHalf = false → ¬ Float64.isZero (Float64.sub (Float64.sub c2 (fmax3 R1 G1 B1)) (fmin3 R1 G1 B1)) = true))
   (eD : sh sx 6 = D6)
   (eA1 : hlsR (Float64.add D6 (Float64.mul (Float64.ofInt sg) H0)) (Float64.abs (Float64.sub (Float64.ofInt ov) V0)) S0 = A1) (eA2 : hlsG (Float64.add D6 (Float64.mul (Float64.ofInt sg) H0)) (Float64.abs (Float64.sub (Float64.ofInt ov) V0)) S0 = A2) (eA3 : hlsB (Float64.add D6 (Float64.mul (Float64.ofInt sg) H0)) (Float64.abs (Float64.sub (Float64.ofInt ov) V0)) S0 = A3)
   (eP1 : hlsR (Float64.mul (Float64.ofInt sg) (Float64.sub H1 D6)) (Float64.abs (Float64.sub (Float64.ofInt ov) V1)) S1 = P1) (eP2 : hlsG (Float64.mul (Float64.ofInt sg) (Float64.sub H1 D6)) (Float64.abs (Float64.sub (Float64.ofInt ov) V1)) S1 = P2) (eP3 : hlsB (Float64.mul (Float64.ofInt sg) (Float64.sub H1 D6)) (Float64.abs (Float64.sub (Float64.ofInt ov) V1)) S1 = P3)
   (iA1 : Is A1 x top) (iA2 : Is A2 y top) (iA3 : Is A3 z top) (iP1 : Is P1 r top) (iP2 : Is P2 g top) (iP3 : Is P3 b top) :
   ConL 16 w mean mg mb 99 [.ref p, .int top tt, .int rest tr] [(p, in3 n r g b t1 t2 t3)] (RetS x y z top) := by
  k_with_none
  k_with "omega" => (with_reducible assumption)
  k_with "ktr_room" => first | exact rm1 (by with_reducible assumption) (by exact rfl) | exact rm0 hd
  k_with "ktr_units" => exact rm1 (by with_reducible assumption) (by exact rfl)
  k_with "size_fits" => exact szle (by exact rfl)
  k_with "k_room" => ktr_room
  k_with "k_ne" => (refine neN ?_; (try dsimp only); first | (with_reducible assumption) | (with_reducible exact Ne.symm (by assumption)) | (with_reducible exact Nat.ne_of_lt (by assumption)) | (with_reducible exact Nat.ne_of_gt (by assumption)) | (with_reducible exact Nat.ne_of_lt (ltAll (by assumption) (by k_dflt k_mem))) | (with_reducible exact Nat.ne_of_gt (ltAll (by assumption) (by k_dflt k_mem))) | (with_reducible exact Nat.ne_of_lt (ltAllS (by assumption) (by k_dflt k_mem))) | (with_reducible exact Nat.ne_of_gt (ltAllS (by assumption) (by k_dflt k_mem))) | (with_reducible exact Nat.ne_of_gt (ltAllSS (by assumption) (by k_dflt k_mem))) | (with_reducible exact Nat.ne_of_lt (ltAllSS (by assumption) (by k_dflt k_mem))) | (with_reducible exact Nat.ne_of_gt (ltAllSSS (by assumption) (by k_dflt k_mem))) | (with_reducible exact Nat.ne_of_lt (ltAllSSS (by assumption) (by k_dflt k_mem))) | (with_reducible exact Nat.ne_of_lt (ltVia (by assumption) (by assumption) (by k_dflt k_mem))) | (with_reducible exact Nat.ne_of_gt (ltVia (by assumption) (by assumption) (by k_dflt k_mem))) | (with_reducible exact off1 (by assumption) (by k_dflt k_mem)) | (with_reducible exact Ne.symm (off1 (by assumption) (by k_dflt k_mem))) | (with_reducible exact offI (by assumption) (by k_dflt k_mem)) | (with_reducible exact offC (by assumption) (by k_dflt k_mem)) | (with_reducible exact offD (by assumption) (by k_dflt k_mem)) | (with_reducible exact Ne.symm (offI (by assumption) (by k_dflt k_mem))) | (with_reducible exact Ne.symm (offC (by assumption) (by k_dflt k_mem))) | (with_reducible exact Ne.symm (offD (by assumption) (by k_dflt k_mem))))
  k_with "k_lt" => skip
  k_with "k_all" => (with_reducible exact neAll (by assumption))
  k_with "execs cons" => (k_here; (with_reducible show wpAny _ _ _ _ _ (Shared.mk _ _ _ (HAdd.hAdd _ _) _)); refine genTok ?_; intro tk')
  k_with "execs nil" => (k_here; (with_reducible show wpAny _ _ _ _ _ (Shared.mk _ _ _ (HAdd.hAdd _ _) _)); refine genTok ?_; intro tk')
  k_with "execs cons" => (k_here; (rename News _ _ _ _ => N9); dsimp only at N9; walk_at "execs cons")
  k_with "execs cons" => (k_here; (rename Fr _ _ _ _ => F9); dsimp only at F9; walk_at "execs cons")
  k_with "k_mem" => (first | (with_reducible assumption) | exact List.Mem.head _ | (refine' memT ?_; k_mem))
  k_with "execs cons" => (k_here; (with_reducible rename (Fr _ _ _ (fun y => ite (y = Str.ofString "told") _ _)) => F8); (with_reducible rename (News _ _ _ (_ :: _)) => N9); (have g9 := genOn); refine genNews N9 ?_; clear N9; intro R9 s8 N'; (try have n9 := s8 _ (List.Mem.head _)); (try have n9 := s8 _ (List.Mem.tail _ (List.Mem.head _))); (try have n9 := s8 _ (List.Mem.tail _ (List.Mem.tail _ (List.Mem.head _)))); (try have n9 := s8 _ (List.Mem.tail _ (List.Mem.tail _ (List.Mem.tail _ (List.Mem.head _))))); (try have n9 := s8 _ (List.Mem.tail _ (List.Mem.tail _ (List.Mem.tail _ (List.Mem.tail _ (List.Mem.head _)))))); (try have n9 := s8 _ (List.Mem.tail _ (List.Mem.tail _ (List.Mem.tail _ (List.Mem.tail _ (List.Mem.tail _ (List.Mem.head _))))))); (try have n9 := s8 _ (List.Mem.tail _ (List.Mem.tail _ (List.Mem.tail _ (List.Mem.tail _ (List.Mem.tail _ (List.Mem.tail _ (List.Mem.head _)))))))); (try have n9 := s8 _ (List.Mem.tail _ (List.Mem.tail _ (List.Mem.tail _ (List.Mem.tail _ (List.Mem.tail _ (List.Mem.tail _ (List.Mem.tail _ (List.Mem.head _))))))))); (try have n9 := s8 _ (List.Mem.tail _ (List.Mem.tail _ (List.Mem.tail _ (List.Mem.tail _ (List.Mem.tail _ (List.Mem.tail _ (List.Mem.tail _ (List.Mem.tail _ (List.Mem.head _)))))))))); (try have n9 := s8 _ (List.Mem.tail _ (List.Mem.tail _ (List.Mem.tail _ (List.Mem.tail _ (List.Mem.tail _ (List.Mem.tail _ (List.Mem.tail _ (List.Mem.tail _ (List.Mem.tail _ (List.Mem.head _))))))))))); (try have n9 := s8 _ (List.Mem.tail _ (List.Mem.tail _ (List.Mem.tail _ (List.Mem.tail _ (List.Mem.tail _ (List.Mem.tail _ (List.Mem.tail _ (List.Mem.tail _ (List.Mem.tail _ (List.Mem.tail _ (List.Mem.head _)))))))))))); (try have n9 := s8 _ (List.Mem.tail _ (List.Mem.tail _ (List.Mem.tail _ (List.Mem.tail _ (List.Mem.tail _ (List.Mem.tail _ (List.Mem.tail _ (List.Mem.tail _ (List.Mem.tail _ (List.Mem.tail _ (List.Mem.tail _ (List.Mem.head _))))))))))))); (try have n9 := s8 _ (List.Mem.tail _ (List.Mem.tail _ (List.Mem.tail _ (List.Mem.tail _ (List.Mem.tail _ (List.Mem.tail _ (List.Mem.tail _ (List.Mem.tail _ (List.Mem.tail _ (List.Mem.tail _ (List.Mem.tail _ (List.Mem.tail _ (List.Mem.head _)))))))))))))); (try have n9 := s8 _ (List.Mem.tail _ (List.Mem.tail _ (List.Mem.tail _ (List.Mem.tail _ (List.Mem.tail _ (List.Mem.tail _ (List.Mem.tail _ (List.Mem.tail _ (List.Mem.tail _ (List.Mem.tail _ (List.Mem.tail _ (List.Mem.tail _ (List.Mem.tail _ (List.Mem.head _))))))))))))))); clear s8; walk_at "execs cons")
  k_with "execs cons" => (k_here; (with_reducible rename GenOn => g9); (with_reducible rename (News _ _ _ (_ :: _)) => N9); refine genNews N9 ?_; clear N9; intro R8 s8 N'; (repeat ((with_reducible rename (_ ∈ R9) => m9); (first | replace m9 := memS1 s8 m9 | replace m9 := memS2 s8 m9 | replace m9 := memS3 s8 m9 | replace m9 := memS4 s8 m9); (with_reducible rename (_ ∈ R8) => n9))); (try have n9 := s8 _ (List.Mem.head _)); (try have n9 := s8 _ (List.Mem.tail _ (List.Mem.head _))); (try have n9 := s8 _ (List.Mem.tail _ (List.Mem.tail _ (List.Mem.head _)))); (try have n9 := s8 _ (List.Mem.tail _ (List.Mem.tail _ (List.Mem.tail _ (List.Mem.head _))))); (try have n9 := s8 _ (List.Mem.tail _ (List.Mem.tail _ (List.Mem.tail _ (List.Mem.tail _ (List.Mem.head _)))))); clear s8; (rename List (Addr × Obj) => R9); walk_at "execs cons")
  k_with "binaryOp Add int int" => (k_here; (with_reducible refine addI (by assumption) ?_); intro t9)
  k_with "binaryOp Sub int int" => (k_here; (with_reducible refine subI (by assumption) ?_); intro t9)
  k_with "binaryOp Mod int int" => (k_here; (with_reducible refine modI (by decide) (by assumption) ?_); intro t9)
  k_with "binaryOp Mult int int" => (k_here; (with_reducible refine mulI (by assumption) (by first | exact mok (.inl (by with_reducible assumption)) | exact mok (.inr (by with_reducible assumption)) | exact mokl (by exact rfl) | mul_fits) ?_); intro t9)
  k_with "binaryOp Mult int float" => (k_here; (with_reducible refine mulIF (by assumption) (by with_unfolding_all rfl) ?_); intro t9)
  k_with "binaryOp Sub int float" => (k_here; (with_reducible refine subIF (by assumption) (by with_unfolding_all rfl) ?_); intro t9)
  k_with "CompEnd" => (k_dflt (refine compEnd_same (by assumption) (by assumption) (by assumption) (by first | lcg_src | assumption) ?_))
  k_with "FinE" => (unfold LCg.FinE; intro D' h' tk' F' N' o1'; (try simp only [List.nil_append, List.cons_append] at N'); (try dsimp only))
  k_with "CompRest" => (with_unfolding_all first | (refine LCg.CompRest.succ ?_; intro v' I' oI' C' oC' D' m' h' tk' E' hv' hC' hx' F' N' off' ne'; lcg_open hv'; (have e1' := And.left ne'; have e2' := And.left (And.right ne'); have e3' := And.right (And.right ne'))) | refine LCg.CompRest.zero ?_)
  k_with "CompSrc" => (k_here; k_dflt (refine LCg.CompSrc.ledger (by rfl) (by k_asm) (by k_asm) (by k_mem) (by first | size_fits | exact Nat.le_of_ble_eq_true rfl) ?_; intro g'; lcg_lit))
  k_with "CompRest" => (k_dflt (refine rest3R (fun a c => a + q = c) (by exact hp3) (by first | lcg_src | assumption) (by with_reducible assumption) (by with_reducible assumption) (by with_reducible assumption) ?_ ?_); (focus (k_dflt (intro a9 c9 r9 t9 m9 I9 oI9 C9 oC9 D9 oD9 n9 h9 tk9 E9 Q9 hC9 hx9 F9 N9 off9 ne9 hq9); (have e1' := And.left ne9; have e2' := And.left (And.right ne9); have e3' := And.right (And.right ne9)); k_dflt k_steps; (k_dflt (refine hq9 _ _ _ ?_ ?_); all_goals assumption))); intro u9 v9 w9)
  k_with "call builtin:max" => (k_here; (with_reducible show wpAny _ _ (call (Value.builtin _) [Value.ref _]) _ _ _); k_dflt (refine max_l (by with_unfolding_all rfl) (by k_asm) (by k_asm) (by k_mem) (by with_reducible assumption) ?_); intro _ _ _ F' N'; (try dsimp only); (try k_fold))
  k_with "call builtin:min" => (k_here; (with_reducible show wpAny _ _ (call (Value.builtin _) [Value.ref _]) _ _ _); k_dflt (refine min_l (by with_unfolding_all rfl) (by k_asm) (by k_asm) (by k_mem) (by with_reducible assumption) ?_); intro _ _ _ F' N'; (try dsimp only); (try k_fold))
  k_with "k_ne" => (refine neN ?_; (try dsimp only); first | (with_reducible assumption) | (with_reducible exact Ne.symm (by assumption)) | (with_reducible exact Nat.ne_of_lt (by assumption)) | (with_reducible exact Nat.ne_of_gt (by assumption)) | (with_reducible exact Nat.ne_of_lt (ltAll (by assumption) (by k_dflt k_mem))) | (with_reducible exact Nat.ne_of_gt (ltAll (by assumption) (by k_dflt k_mem))) | (with_reducible exact Nat.ne_of_lt (ltAllS (by assumption) (by k_dflt k_mem))) | (with_reducible exact Nat.ne_of_gt (ltAllS (by assumption) (by k_dflt k_mem))) | (with_reducible exact Nat.ne_of_gt (ltAllSS (by assumption) (by k_dflt k_mem))) | (with_reducible exact Nat.ne_of_lt (ltAllSS (by assumption) (by k_dflt k_mem))) | (with_reducible exact Nat.ne_of_gt (ltAllSSS (by assumption) (by k_dflt k_mem))) | (with_reducible exact Nat.ne_of_lt (ltAllSSS (by assumption) (by k_dflt k_mem))) | (with_reducible exact Nat.ne_of_lt (ltVia (by assumption) (by assumption) (by k_dflt k_mem))) | (with_reducible exact Nat.ne_of_gt (ltVia (by assumption) (by assumption) (by k_dflt k_mem))) | (with_reducible exact neqAll (by assumption) (by k_dflt k_mem)) | (with_reducible exact Ne.symm (neqAll (by assumption) (by k_dflt k_mem))) | (with_reducible exact off1 (by assumption) (by k_dflt k_mem)) | (with_reducible exact Ne.symm (off1 (by assumption) (by k_dflt k_mem))) | (with_reducible exact offI (by assumption) (by k_dflt k_mem)) | (with_reducible exact offC (by assumption) (by k_dflt k_mem)) | (with_reducible exact offD (by assumption) (by k_dflt k_mem)) | (with_reducible exact Ne.symm (offI (by assumption) (by k_dflt k_mem))) | (with_reducible exact Ne.symm (offC (by assumption) (by k_dflt k_mem))) | (with_reducible exact Ne.symm (offD (by assumption) (by k_dflt k_mem))))
  k_with "call ref" => (k_here; k_dflt (show wpAny _ _ (call (Value.ref 68) _) _ _ _); k_dflt (refine' shares_p (by k_asm) (by k_asm) (by k_mem) (by with_reducible assumption) (by with_reducible assumption) (by with_reducible assumption) (by with_reducible assumption) (by with_reducible assumption) (by with_reducible assumption) (by with_reducible assumption) (by k_asm) (by k_asm) (by k_asm) (by first | exact rfl | assumption) (by ktr_room) (by ktr_units) _; k_whole); intro p' _ _ _ h' _ F' N' l1; (try dsimp only); (try k_fold))
  k_with "call ref" => (k_here; k_dflt (show wpAny _ _ (call (Value.ref 73) _) _ _ _); k_dflt (refine' is_w (by k_asm) (by k_asm) (by k_mem) (by k_mem) (by with_reducible assumption) (by with_reducible assumption) (by with_reducible assumption) (by with_reducible assumption) (by with_reducible assumption) (by with_reducible assumption) (by with_reducible assumption) (by with_reducible assumption) (by k_asm) (by k_asm) (by k_asm) (by first | exact rfl | assumption) (by ktr_room) (by ktr_units) _; k_whole); intro h' _ F' N'; (try dsimp only); (try k_fold))
  k_with "call ref" => (k_here; k_dflt (show wpAny _ _ (call (Value.ref 87) _) _ _ _); k_dflt (refine' seen_w (by k_asm) (by k_asm) (by k_mem) (by with_reducible assumption) (by with_reducible assumption) (by k_asm) (by k_asm) (by k_asm) (by first | exact rfl | assumption) (by ktr_room) (by ktr_units) _; k_whole); intro p' _ _ _ _ h' _ F' N' l1; (try dsimp only); (try k_fold))
  k_with "call ref" => (k_here; k_dflt (show wpAny _ _ (call (Value.ref 80) _) _ _ _); k_dflt (refine' turned_w (by k_asm) (by k_asm) (by k_mem) (by with_reducible assumption) (by with_reducible assumption) (by k_asm) (by k_asm) (by k_asm) (by first | exact rfl | assumption) (by ktr_room) (by ktr_units) _; k_whole); intro p' _ _ _ _ h' _ F' N' l1; (try dsimp only); (try k_fold))
  k_with "call ref" => (k_here; k_dflt (show wpAny _ _ (call (Value.ref 56) _) _ _ _); k_dflt (refine' hsv_k (by with_reducible assumption) (by with_reducible assumption) (by with_reducible assumption) (by with_reducible assumption) _ _ _ _ _ _ _ _ _ _ _ _ _ _ _ _ _ _ (by k_asm) (by k_asm) (by k_asm) (by k_asm) (by k_asm) (by first | exact rfl | assumption) (by ktr_room) (by ktr_units) _; k_whole); intro p' _ _ _ h' _ F' N' l1; (try dsimp only); (try k_fold))
  k_with "call ref" => (k_here; k_dflt (show wpAny _ _ (call (Value.ref 35) _) _ _ _); k_dflt (refine' hls_k (by with_reducible assumption) (by with_reducible assumption) (by with_reducible assumption) (by with_reducible assumption) _ _ _ _ _ _ _ _ _ _ _ _ _ _ _ _ _ _ (by k_asm) (by k_asm) (by k_asm) (by k_asm) (by k_asm) (by first | exact rfl | assumption) (by ktr_room) (by ktr_units) _; k_whole); intro p' _ _ _ h' _ F' N' l1; (try dsimp only); (try k_fold))
  k_with "call ref" => (k_here; k_dflt (show wpAny _ _ (call (Value.ref 21) _) _ _ _); k_dflt (refine' yiq_k (by with_reducible assumption) (by with_reducible assumption) (by with_reducible assumption) _ _ _ _ _ _ _ _ _ _ _ _ _ _ _ _ _ _ (by k_asm) (by k_asm) (by k_asm) (by k_asm) (by k_asm) (by first | exact rfl | assumption) (by ktr_room) (by ktr_units) _; k_whole); intro p' _ _ _ h' _ F' N' l1; (try dsimp only); (try k_fold))
  k_with "call ref" => (k_here; k_dflt (show wpAny _ _ (call (Value.ref 63) _) _ _ _); k_dflt (refine' hr_k (by with_reducible assumption) (by with_reducible assumption) (by with_reducible assumption) (by with_reducible assumption) _ _ _ _ _ _ _ _ _ _ _ _ _ _ _ _ _ _ (by k_asm) (by k_asm) (by k_asm) (by k_asm) (by k_asm) (by first | exact rfl | assumption) (by ktr_room) (by ktr_units) _; k_whole); intro p' _ _ _ h' _ F' N' l1; (try dsimp only); (try k_fold))
  k_with "call ref" => (k_here; k_dflt (show wpAny _ _ (call (Value.ref 42) _) _ _ _); k_dflt (refine' hlr_k (by with_reducible assumption) (by with_reducible assumption) (by with_reducible assumption) _ _ _ _ _ _ _ _ _ _ _ _ _ _ _ _ _ _ (by k_asm) (by k_asm) (by k_asm) (by k_asm) (by k_asm) (by first | exact rfl | assumption) (by ktr_room) (by ktr_units) _; k_whole); intro p' _ _ _ h' _ F' N' l1; (try dsimp only); (try k_fold))
  k_with "call ref" => (k_here; k_dflt (show wpAny _ _ (call (Value.ref 28) _) _ _ _); k_dflt (refine' yr_k (by with_reducible assumption) (by with_reducible assumption) (by with_reducible assumption) _ _ _ _ _ _ _ _ _ _ _ _ _ _ _ _ _ _ (by k_asm) (by k_asm) (by k_asm) (by k_asm) (by k_asm) (by first | exact rfl | assumption) (by ktr_room) (by ktr_units) _; k_whole); intro p' _ _ _ h' _ F' N' l1; (try dsimp only); (try k_fold))
  k_with "binaryOp Div int int" => (k_dflt (refine div_sh rfl (by first | (with_reducible assumption) | decide | omega) (by first | (with_reducible assumption) | decide | omega) (by with_reducible assumption) ?_))
  intro dp un gd cn cs a ccd cl outer A₀ base h₀ L m s Q E B' F' X' N' T' hk hd hu hret
  have N0 := N'
  w_on
  revert X'; k_fill; intro X'
  refine wpAny_call ?_
  k_dflt (refine' code_defCG ?k1 ?k2 ?k3 ?k4 ?k5 ?kA ?kF ?kK ?k6 ?k7 ?k8 ?k9 ?kB ?kD ?_ ?c2 ?c3 ?c4; (case kA => exact rfl); (case kF => exact rfl); (case kK => assumption); (case k1 => k_asm); (case k2 => k_asm); (case k3 => k_asm); (case k4 => k_asm); (case k5 => k_asm); (case k6 => k_is); (case k7 => k_is); (case k8 => ktr_room); (case k9 => first | exact BindsTo.of_eq rfl | exact binds_K (by k_in) rfl (by k_is) rfl rfl rfl | fail "k_enter: no rule for these arguments"); (case kB => exact rfl); (case kD => decide +kernel); (case c2 => exact rfl); (case c3 => exact rfl); (case c4 => exact rfl); k_whole; intro g' L' h' tk' cells' FG' F' N' Y' B' X' T' l1 GS hL; (try k_lt l1); (have hY := CellsAre.one Y'; obtain ⟨oc0, hE', dc0⟩ := hY; subst hE'; clear Y'); (try simp only [List.cons_append, List.nil_append] at N'); (try dsimp only); (try k_lift B'); (try k_fold))
  replace F' : Fr g' L' h' (fun y => if y = Str.ofString "rest" then some (.int rest tr) else if y = Str.ofString "top" then some (.int top tt) else if y = Str.ofString "colour" then some (.ref p) else none) := F'
  k_steps
  all_goals first | exact absurd (by assumption) (Nat.not_le.mpr hsg) | skip
  all_goals with_reducible refine' retS_use hret N0 GS ?zf ?zkn ?zsub ?zhq ?zhp ?zn ?zhq' ?zhp' ?za ?zb ?zc
  case zf => assumption
  case zkn => assumption
  case zsub => exact fun q hq => by rw [List.mem_singleton.mp hq]; k_mem
  case zhq => k_mem
  case zhp => k_mem
  case zn => assumption
  case zhq' => k_mem
  case zhp' => k_mem
  case za => exact fun e he => by rw [List.mem_singleton.mp he]; k_ne
  case zb => exact fun e he => by rw [List.mem_singleton.mp he]; k_ne
  case zc => k_ne
end
end
section
set_option maxRecDepth 100000
section
open PySem PySem.W PySem.Calls PyProof.Rows PySem.Flt PySem.Float64
theorem Rep.cshift {r g b m sp : Int} {y : Rat} (q : Int) (h : RepC (r, g, b) m sp y) : RepC (r + q, g + q, b + q) (m + q) sp y := by
  have := Rep.shift (q : Rat) h
  show Rep ((r + q : Int) : Rat) ((g + q : Int) : Rat) ((b + q : Int) : Rat) ((m + q : Int) : Rat) sp y
  rw [Rat.intCast_add, Rat.intCast_add, Rat.intCast_add, Rat.intCast_add]
  exact this
theorem Rep.cunshift {r g b m sp : Int} {y : Rat} (q : Int) (h : RepC (r + q, g + q, b + q) (m + q) sp y) : RepC (r, g, b) m sp y := by
  have := Rep.cshift (-q) h
  rw [Int.add_neg_cancel_right, Int.add_neg_cancel_right, Int.add_neg_cancel_right, Int.add_neg_cancel_right] at this
  exact this
theorem hl_math {r g b top M m x y z M2 m2 k ov sg q : Int} (C : Col r g b top M m) (C' : Col x y z top M2 m2) (hov : ov = 0 ∨ ov = 1) (hq : (ov = 0 ∧ q = 0) ∨ (ov = 1 ∧ q = top - M - m)) (hM2 : M2 = M + q) (hm2 : m2 = m + q) (hs : sg = 1 ∨ sg = -1) (k0 : -12 ≤ k) (k1 : k ≤ 12)
    (R1 : RepC (x, y, z) m2 (M2 - m2) ((sg : Rat) * ((hn r g b M (M - m) : Rat) / ((M - m : Int) : Rat)) + (k : Rat))) (R2 : RepC (r, g, b) m (M - m) ((sg : Rat) * ((hn x y z M2 (M2 - m2) : Rat) / ((M2 - m2 : Int) : Rat) + -(k : Rat)))) :
    (Is (hlsR (add (sh k 6) (mul (ofInt sg) (hueOf (sh r top) (sh g top) (sh b top)))) (abs (sub (ofInt ov) (light (sh r top) (sh g top) (sh b top)))) (satL (sh r top) (sh g top) (sh b top))) x top ∧ Is (hlsG (add (sh k 6) (mul (ofInt sg) (hueOf (sh r top) (sh g top) (sh b top)))) (abs (sub (ofInt ov) (light (sh r top) (sh g top) (sh b top)))) (satL (sh r top) (sh g top) (sh b top))) y top ∧ Is (hlsB (add (sh k 6) (mul (ofInt sg) (hueOf (sh r top) (sh g top) (sh b top)))) (abs (sub (ofInt ov) (light (sh r top) (sh g top) (sh b top)))) (satL (sh r top) (sh g top) (sh b top))) z top) ∧
      (Is (hlsR (mul (ofInt sg) (sub (hueOf (sh x top) (sh y top) (sh z top)) (sh k 6))) (abs (sub (ofInt ov) (light (sh x top) (sh y top) (sh z top)))) (satL (sh x top) (sh y top) (sh z top))) r top ∧ Is (hlsG (mul (ofInt sg) (sub (hueOf (sh x top) (sh y top) (sh z top)) (sh k 6))) (abs (sub (ofInt ov) (light (sh x top) (sh y top) (sh z top)))) (satL (sh x top) (sh y top) (sh z top))) g top ∧ Is (hlsB (mul (ofInt sg) (sub (hueOf (sh x top) (sh y top) (sh z top)) (sh k 6))) (abs (sub (ofInt ov) (light (sh x top) (sh y top) (sh z top)))) (satL (sh x top) (sh y top) (sh z top))) b top) := by
  have hm0 := C.M0
  have hm0' := C'.M0
  obtain ⟨esp, hsum⟩ := ov_sum hq hM2 hm2
  have emin := ov_min hsum
  have hD := six_ap k0 k1
  have hu := C.hue_ap.1
  have hu' := C'.hue_ap.1
  have sa := C.satL_ap
  have sa' := C'.satL_ap
  have la := C.light_ap
  have la' := C'.light_ap
  have hb := C.hb
  have hb' := C'.hb
  have u0 := uu0
  have e1 := k9 C.kb.2
  have e1' := k9 C'.kb.2
  have A := hueL hu hb.1 hb.2 e1 hD k0 k1 hs
  have P := hueP hu' hb'.1 hb'.2 e1' hD k0 k1 hs
  have Ab := (hue_bl hu hb.1 hb.2 e1 hD k0 k1 hs).1
  have Pb := (hue_bl hu' hb'.1 hb'.2 e1' hD k0 k1 hs).2.1
  rw [← six_sg] at A
  rw [← six_sgs] at P
  have me := Rat.le_trans (C.me 11 (by decide)) u11
  have me' := Rat.le_trans (C'.me 11 (by decide)) u11
  have se := C.se 27 (by decide)
  have se' := C'.se 27 (by decide)
  have rs1 : ((M - m : Int) : Rat) / top ≤ 1 := part_le (by omega) (by omega)
  have rs0 : 0 ≤ ((M - m : Int) : Rat) / top := part_nn (by omega) C.d.p
  have L := half_b (a := M + m) C.d.p (by omega) (by omega)
  have L' := half_b (a := M2 + m2) C.d.p (by omega) (by omega)
  have oA := over_ap la.1 la.2.1 la.2.2 u3k hov L'.1 (ov_light C.d.p hsum) (le_m1 L.1) (le_12 L.2)
  have oP := over_ap la'.1 la'.2.1 la'.2.2 u3k hov L.1 (ov_light C.d.p (ov_sym hsum)) (le_m1 L'.1) (le_12 L'.2)
  have sa1 := sa.1
  have sa1' := sa'.1
  rw [← esp, ← emin] at sa1
  rw [esp, emin] at sa1'
  rw [emin] at me'
  have heA : ((M2 - m2 : Int) : Rat) / (2 * (top : Rat)) * (6 * (9 * (uu * (top : Rat) / ((M - m : Int) : Rat)) + 5 * uu)) ≤ 300 * uu := by rw [esp, dv_2]; exact hl_he u0 rs0 rs1 se Rat.le_refl
  have heP : ((M - m : Int) : Rat) / (2 * (top : Rat)) * (6 * (9 * (uu * (top : Rat) / ((M2 - m2 : Int) : Rat)) + 4 * uu)) ≤ 300 * uu := by rw [esp, dv_2]; exact hl_he u0 rs0 rs1 se u45
  obtain ⟨iA1, iA2, iA3⟩ := hls_out C' R1 Ab.1 Ab.2 sa.2.1 sa.2.2 oA.2.1 oA.2.2 oA.1 sa1 A u410 (by rw [emin]; exact me) heA
  obtain ⟨iP1, iP2, iP3⟩ := hls_out C R2 Pb.1 Pb.2 sa'.2.1 sa'.2.2 oP.2.1 oP.2.2 oP.1 sa1' P u410 (by exact me) heP
  exact ⟨⟨iA1, iA2, iA3⟩, iP1, iP2, iP3⟩
theorem hl_stepM {w : World} {mean : ExcName → Option Value} {mg mb : Str → Option Value} (p : Addr) (n : Nat) (r g b top rest : Int) (t1 t2 t3 tt tr : Tok) (hr : 0 ≤ r ∧ r ≤ top) (hg : 0 ≤ g ∧ g ≤ top) (hb : 0 ≤ b ∧ b ≤ top) (h0 : 0 < top) (h1 : top ≤ 4096)
    (M m : Int) (hM : max (max r g) b = M) (hm : min (min r g) b = m) : ConL 16 w mean mg mb 99 [.ref p, .int top tt, .int rest tr] [(p, in3 n r g b t1 t2 t3)] StepRet := by
  have C : Col r g b top M m := ⟨⟨h0, Int.le_trans h1 (by decide)⟩, hr.1, hr.2, hg.1, hg.2, hb.1, hb.2, hM, hm⟩
  obtain ⟨g1, b1, es1, es2, hsg, hM1, hm1, mr1, mr2⟩ := mir_lem r g b (rest.fmod 2) M m (fm2 rest) hM hm
  have hk := fm_b (rest.fdiv 4) (n := 12) (by decide)
  have k1 : -12 ≤ (rest.fdiv 4).fmod 12 - 6 ∧ (rest.fdiv 4).fmod 12 - 6 ≤ 12 := ⟨by omega, by omega⟩
  have hov := fm2 (rest.fdiv 2)
  have hq : ((rest.fdiv 2).fmod 2 = 0 ∧ (rest.fdiv 2).fmod 2 * (top - M - m) = 0) ∨ ((rest.fdiv 2).fmod 2 = 1 ∧ (rest.fdiv 2).fmod 2 * (top - M - m) = top - M - m) := by
    rcases hov with e | e
    · exact .inl ⟨e, by rw [e, Int.zero_mul]⟩
    · exact .inr ⟨e, by rw [e, Int.one_mul]⟩
  have hb2 := ov_bnd C.M0.2.2.1 C.M0.2.1 hq
  have mm := mm_addr ((rest.fdiv 2).fmod 2 * (top - M - m)) hM1 hm1
  obtain ⟨x, y, z, et, C', tr1, tr2⟩ := turn_lem (c := (r + (rest.fdiv 2).fmod 2 * (top - M - m), g1 + (rest.fdiv 2).fmod 2 * (top - M - m), b1 + (rest.fdiv 2).fmod 2 * (top - M - m))) C.d mm.1 mm.2 hb2.1 hb2.2 ((rest.fdiv 4).fmod 12 - 6)
  have esp := (ov_sum hq rfl rfl).1
  have I := hl_math C C' hov hq rfl rfl hsg k1.1 k1.2 (tr1 _ (by rw [esp]; exact Rep.cshift _ (mr1 _ C.rep))) (mr2 _ (Rep.cunshift _ (by have := tr2 _ C'.rep; rw [esp] at this ⊢; exact this)))
  have t4 := C.d.q
  exact step_of ⟨C'.r0, C'.r1⟩ ⟨C'.g0, C'.g1⟩ ⟨C'.b0, C'.b1⟩ h0 t4
    (hl_ok p n r g b top rest t1 t2 t3 tt tr (small40 hr.1 hr.2 t4) (small40 hg.1 hg.2 t4) (small40 hb.1 hb.2 t4) (Int.ne_of_gt h0) h0 (lt40 t4) _ _ _ _ _ _ _ _ _ _ g1 b1 _ x y z M m (max_of hM) (min_of hm) _ _ _ _ _ _ _ _ _ _ _ _ _ _ _ _ _ _ _ 
      (small40 C'.r0 C'.r1 t4) (small40 C'.g0 C'.g1 t4) (small40 C'.b0 C'.b1 t4) (six40 k1.1 k1.2) (ov40 hov) rfl rfl rfl rfl rfl rfl rfl rfl rfl rfl (fit_sg hsg) (fit_ov hov) es1 es2 et (both_of mm.1 mm.2) rfl rfl rfl rfl rfl rfl C.zL rfl rfl rfl rfl rfl rfl C'.zL rfl
      rfl rfl rfl rfl rfl rfl I.1.1 I.1.2.1 I.1.2.2 I.2.1 I.2.2.1 I.2.2.2)
theorem hl_step {w : World} {mean : ExcName → Option Value} {mg mb : Str → Option Value} : StepC w mean mg mb 99 := fun p n r g b top rest t1 t2 t3 tt tr hr hg hb h0 h1 => hl_stepM p n r g b top rest t1 t2 t3 tt tr hr hg hb h0 h1 _ _ rfl rfl
end
end
section
section
open PySem PySem.Flt PySem.Float64
theorem d0 {a b c : Rat} (hc : 0 ≤ c) (h : a ≤ b) : a / c ≤ b / c := by
  rcases Rat.le_total (a := c) (b := 0) with h0 | h0
  · have : c = 0 := by grind
    subst this
    have e : ∀ x : Rat, x / 0 = 0 := fun x => by grind
    rw [e, e]; exact Rat.le_refl
  · by_cases e : c = 0
    · subst e
      have e : ∀ x : Rat, x / 0 = 0 := fun x => by grind
      rw [e, e]; exact Rat.le_refl
    · exact div_le_div (by grind) h
/-- one or two as a float -/
theorem two_ap {p : Int} (hp : p = 1 ∨ p = 2) : Fin (ofInt p) ∧ fv (ofInt p) = (p : Rat) ∧ ((p : Rat) = 1 ∨ (p : Rat) = 2) ∧ ¬ isZero (ofInt p) = true ∧ p.natAbs < 2 ^ 1024 - 2 ^ 970 := by
  have h : Fin (ofInt p) ∧ fv (ofInt p) = (p : Rat) := ofInt_exact (by rcases hp with rfl | rfl <;> decide)
  have h2 : (p : Rat) = 1 ∨ (p : Rat) = 2 := by
    rcases hp with rfl | rfl
    · exact .inl rfl
    · exact .inr rfl
  refine ⟨h.1, h.2, h2, fun e => ?_, fit (by rcases hp with rfl | rfl <;> decide)⟩
  have := (isZero_iff h.1).mp e
  rw [h.2] at this
  rcases h2 with e | e <;> rw [e] at this <;> grind
/-- divided by one or two -/
theorem div2_ap {x : UInt64} {X e : Rat} {p : Int} (hp : p = 1 ∨ p = 2) (h : Ap x X e) (x0 : 0 ≤ fv x) (x1 : fv x ≤ 101 / 100) (e1 : e ≤ 1 / 100) : Ap (div x (ofInt p)) (X / p) (2 * e + uu) ∧ 0 ≤ fv (div x (ofInt p)) ∧ (fv x ≤ 1 → fv (div x (ofInt p)) ≤ 1) ∧ fv (div x (ofInt p)) ≤ 101 / 100 := by
  obtain ⟨a, b, c, _, _⟩ := two_ap hp
  have u0 := uu0
  have us := uus
  have := h.lo; have := h.hi
  have p0 : (0 : Rat) < (p : Rat) := by rcases c with e | e <;> rw [e] <;> decide
  have p1 : (1 : Rat) ≤ (p : Rat) := by rcases c with e | e <;> rw [e] <;> decide +kernel
  have e0 : 0 ≤ e := by grind
  have hq0 : 0 ≤ fv x / (p : Rat) := le_div_of p0 (by grind)
  have hq1 : fv x / (p : Rat) ≤ fv x := div_le_of p0 (by have := Rat.mul_le_mul_of_nonneg_left p1 x0; grind)
  have hr := div_rnd h.fin a (by rw [b]; grind) (by rw [b]; exact big_of (by grind) (by grind))
  rw [b] at hr
  have r := rnd_ap hr (by grind) (by grind)
  have z := rnd_ge hr fin_z (by rw [fv_z]; exact hq0)
  rw [fv_z] at z
  have t := rnd_le hr h.fin hq1
  have := r.lo; have := r.hi
  have d1 : fv x / (p : Rat) - X / p = (fv x - X) / p := by grind
  have d2 : (fv x - X) / (p : Rat) ≤ e := div_le_of p0 (by have := Rat.mul_le_mul_of_nonneg_left p1 e0; grind)
  have d3 : -e ≤ (fv x - X) / (p : Rat) := le_div_of p0 (by have := Rat.mul_le_mul_of_nonneg_left p1 e0; grind)
  exact ⟨⟨r.fin, by grind, by grind⟩, z, fun h => by grind, by grind⟩
/-- times one or two -/
theorem mul2_ap {x : UInt64} {X e : Rat} {p : Int} (hp : p = 1 ∨ p = 2) (h : Ap x X e) (x0 : 0 ≤ fv x) (x1 : fv x ≤ 101 / 100) (e1 : e ≤ 1 / 100) : Ap (mul x (ofInt p)) (X * p) (2 * e + uu) ∧ 0 ≤ fv (mul x (ofInt p)) ∧ (fv x * p ≤ 1 → fv (mul x (ofInt p)) ≤ 1) := by
  obtain ⟨a, b, c, _, _⟩ := two_ap hp
  have u0 := uu0
  have us := uus
  have := h.lo; have := h.hi
  have p0 : (0 : Rat) ≤ (p : Rat) ∧ (p : Rat) ≤ 2 := by rcases c with e | e <;> rw [e] <;> decide +kernel
  have e0 : 0 ≤ e := by grind
  have q0 := Rat.mul_nonneg x0 p0.1
  have q1 := Rat.mul_le_mul_of_nonneg_left p0.2 x0
  have hr := mul_rnd h.fin a (by rw [b]; exact big_of (by grind) (by grind))
  rw [b] at hr
  have r := rnd_ap hr (by grind) (by grind)
  have z := rnd_ge hr fin_z (by rw [fv_z]; exact q0)
  rw [fv_z] at z
  have := r.lo; have := r.hi
  have m := rabs_mul (a := fv x - X) (b := (p : Rat)) (A := e) (B := 2) (by grind) (by grind) (by grind) (by grind)
  have d1 : fv x * (p : Rat) - X * p = (fv x - X) * p := by grind
  exact ⟨⟨r.fin, by grind, by grind⟩, z, fun h => by have := rnd_le hr fin_c1 (by rw [fv_c1]; exact h); rw [fv_c1] at this; exact this⟩
theorem kb0 {a t : Int} (ha : 0 ≤ a) (hT : Dep t) : 0 ≤ uu * (t : Rat) / (a : Rat) ∧ uu * (t : Rat) / (a : Rat) ≤ 1 / 10000 := by
  have u0 := uu0
  have tr := hT.r
  rcases Int.lt_or_le 0 a with h | h
  · have k1 := castR_le (show 1 ≤ a by omega)
    rw [i1] at k1
    have x := quo_le (u := uu) u0 k1 (by grind) tr.2
    have e : 16384 * uu ≤ 1 / 10000 := by decide +kernel
    exact ⟨le_div_of (by grind) (by have := Rat.mul_nonneg u0 (show (0 : Rat) ≤ t by grind); grind), by grind⟩
  · have : a = 0 := by omega
    rw [this, i0]
    have : uu * (t : Rat) / 0 = 0 := by grind
    rw [this]; constructor <;> grind
theorem sh_halfle {a W : Int} (hW : Dep W) (h0 : 0 ≤ a) (h : 2 * a ≤ W) : fv (sh a W) ≤ 1 / 2 := by
  have tp := castR_pos hW.p
  have := castR_le h
  rw [Rat.intCast_mul, i2] at this
  have x1 : (a : Rat) / W ≤ 1 / 2 := div_le_of tp (by grind)
  have x0 : 0 ≤ (a : Rat) / W := le_div_of tp (by have := castR_nn h0; grind)
  have hr := sh_rnd (a := a) (t := W) (by have := hW.p; omega) (big_of (by grind) (by grind))
  have := rnd_le hr fin_half (by rw [fv_half]; exact x1)
  rw [fv_half] at this
  exact this
end
end
section
open PySem PySem.W PyProof.Rows
set_option maxRecDepth 100000
section
set_option maxHeartbeats 8000000 in
theorem hv_ok {w : World} {mean : ExcName → Option Value} {mg mb : Str → Option Value} (p : Addr) (n : Nat) (r g b top rest : Int) (t1 t2 t3 tt tr : Tok) (hr : r.natAbs < 2 ^ 40) (hg : g.natAbs < 2 ^ 40) (hb : b.natAbs < 2 ^ 40) (htop : top ≠ 0) (htop0 : 0 < top) (htop1 : top < 2 ^ 40) (pl pm dk q x y z w1 W : Int) (M : Int) (hM : ∀ x : Int, (x = r ∨ x = g ∨ x = b) → (r ≤ x ∧ g ≤ x ∧ b ≤ x) → x = M) (R0 G0 B0 H0 S0 V0 R1 G1 B1 H1 S1 V1 A1 A2 A3 P1 P2 P3 : UInt64) (h4x : x.natAbs < 2 ^ 40) (h4y : y.natAbs < 2 ^ 40) (h4z : z.natAbs < 2 ^ 40) (h4pl : pl.natAbs < 2 ^ 40) (h4pm : pm.natAbs < 2 ^ 40) (h4dk : dk.natAbs < 2 ^ 40) (hdp0 : 0 < W) (hdp1 : W < 2 ^ 40) (hpl0 : pl ≠ 0) (hdk0 : dk ≠ 0)
   (epl : 1 + rest.fmod 2 = pl) (edk : 1 + (rest.fdiv 2).fmod 2 = dk) (epm : pl - 1 = pm) (eq : M * pm = q) (ex : q + r = x) (ey : q + g = y) (ez : q + b = z) (ew1 : top * pl = w1) (eW : w1 * dk = W)
   (eR0 : sh r top = R0) (eG0 : sh g top = G0) (eB0 : sh b top = B0) (eH0 : hueOf R0 G0 B0 = H0) (eS0 : satV R0 G0 B0 = S0) (eV0 : fmax3 R0 G0 B0 = V0) (z0 : grey R0 G0 B0 = false → ¬ Float64.isZero (fmax3 R0 G0 B0) = true ∧ ¬ Float64.isZero (rg R0 G0 B0) = true)
   (eR1 : sh x W = R1) (eG1 : sh y W = G1) (eB1 : sh z W = B1) (eH1 : hueOf R1 G1 B1 = H1) (eS1 : satV R1 G1 B1 = S1) (eV1 : fmax3 R1 G1 B1 = V1) (z1 : grey R1 G1 B1 = false → ¬ Float64.isZero (fmax3 R1 G1 B1) = true ∧ ¬ Float64.isZero (rg R1 G1 B1) = true)
   (hfp : pl.natAbs < 2 ^ 1024 - 2 ^ 970) (hzp : ¬ Float64.isZero (Float64.ofInt pl) = true) (hfd : dk.natAbs < 2 ^ 1024 - 2 ^ 970) (hzd : ¬ Float64.isZero (Float64.ofInt dk) = true)
   (eA1 : hsvR H0 (Float64.div S0 (Float64.ofInt pl)) (Float64.div V0 (Float64.ofInt dk)) = A1) (eA2 : hsvG H0 (Float64.div S0 (Float64.ofInt pl)) (Float64.div V0 (Float64.ofInt dk)) = A2) (eA3 : hsvB H0 (Float64.div S0 (Float64.ofInt pl)) (Float64.div V0 (Float64.ofInt dk)) = A3) (zA : feq (Float64.div S0 (Float64.ofInt pl)) 0 = false → Float64.isFinite (Float64.mul H0 c6) = true ∧ (sec H0).natAbs < 2 ^ 1024 - 2 ^ 970)
   (eP1 : hsvR H1 (Float64.mul S1 (Float64.ofInt pl)) (Float64.mul V1 (Float64.ofInt dk)) = P1) (eP2 : hsvG H1 (Float64.mul S1 (Float64.ofInt pl)) (Float64.mul V1 (Float64.ofInt dk)) = P2) (eP3 : hsvB H1 (Float64.mul S1 (Float64.ofInt pl)) (Float64.mul V1 (Float64.ofInt dk)) = P3) (zP : feq (Float64.mul S1 (Float64.ofInt pl)) 0 = false → Float64.isFinite (Float64.mul H1 c6) = true ∧ (sec H1).natAbs < 2 ^ 1024 - 2 ^ 970)
   (iA1 : Is A1 x W) (iA2 : Is A2 y W) (iA3 : Is A3 z W) (iP1 : Is P1 r top) (iP2 : Is P2 g top) (iP3 : Is P3 b top) :
   ConL 16 w mean mg mb 104 [.ref p, .int top tt, .int rest tr] [(p, in3 n r g b t1 t2 t3)] (RetS x y z W) := by
  k_with_none
  k_with "omega" => (with_reducible assumption)
  k_with "ktr_room" => first | exact rm1 (by with_reducible assumption) (by exact rfl) | exact rm0 hd
  k_with "ktr_units" => exact rm1 (by with_reducible assumption) (by exact rfl)
  k_with "size_fits" => exact szle (by exact rfl)
  k_with "k_room" => ktr_room
  k_with "k_ne" => (refine neN ?_; (try dsimp only); first | (with_reducible assumption) | (with_reducible exact Ne.symm (by assumption)) | (with_reducible exact Nat.ne_of_lt (by assumption)) | (with_reducible exact Nat.ne_of_gt (by assumption)) | (with_reducible exact Nat.ne_of_lt (ltAll (by assumption) (by k_dflt k_mem))) | (with_reducible exact Nat.ne_of_gt (ltAll (by assumption) (by k_dflt k_mem))) | (with_reducible exact Nat.ne_of_lt (ltAllS (by assumption) (by k_dflt k_mem))) | (with_reducible exact Nat.ne_of_gt (ltAllS (by assumption) (by k_dflt k_mem))) | (with_reducible exact Nat.ne_of_gt (ltAllSS (by assumption) (by k_dflt k_mem))) | (with_reducible exact Nat.ne_of_lt (ltAllSS (by assumption) (by k_dflt k_mem))) | (with_reducible exact Nat.ne_of_gt (ltAllSSS (by assumption) (by k_dflt k_mem))) | (with_reducible exact Nat.ne_of_lt (ltAllSSS (by assumption) (by k_dflt k_mem))) | (with_reducible exact Nat.ne_of_lt (ltVia (by assumption) (by assumption) (by k_dflt k_mem))) | (with_reducible exact Nat.ne_of_gt (ltVia (by assumption) (by assumption) (by k_dflt k_mem))) | (with_reducible exact off1 (by assumption) (by k_dflt k_mem)) | (with_reducible exact Ne.symm (off1 (by assumption) (by k_dflt k_mem))) | (with_reducible exact offI (by assumption) (by k_dflt k_mem)) | (with_reducible exact offC (by assumption) (by k_dflt k_mem)) | (with_reducible exact offD (by assumption) (by k_dflt k_mem)) | (with_reducible exact Ne.symm (offI (by assumption) (by k_dflt k_mem))) | (with_reducible exact Ne.symm (offC (by assumption) (by k_dflt k_mem))) | (with_reducible exact Ne.symm (offD (by assumption) (by k_dflt k_mem))))
  k_with "k_lt" => skip
  k_with "k_all" => (with_reducible exact neAll (by assumption))
  k_with "execs cons" => (k_here; (with_reducible show wpAny _ _ _ _ _ (Shared.mk _ _ _ (HAdd.hAdd _ _) _)); refine genTok ?_; intro tk')
  k_with "execs nil" => (k_here; (with_reducible show wpAny _ _ _ _ _ (Shared.mk _ _ _ (HAdd.hAdd _ _) _)); refine genTok ?_; intro tk')
  k_with "execs cons" => (k_here; (rename News _ _ _ _ => N9); dsimp only at N9; walk_at "execs cons")
  k_with "execs cons" => (k_here; (rename Fr _ _ _ _ => F9); dsimp only at F9; walk_at "execs cons")
  k_with "k_mem" => (first | (with_reducible assumption) | exact List.Mem.head _ | (refine' memT ?_; k_mem))
  k_with "execs cons" => (k_here; (with_reducible rename (Fr _ _ _ (fun y => ite (y = Str.ofString "told") _ _)) => F8); (with_reducible rename (News _ _ _ (_ :: _)) => N9); (have g9 := genOn); refine genNews N9 ?_; clear N9; intro R9 s8 N'; (try have n9 := s8 _ (List.Mem.head _)); (try have n9 := s8 _ (List.Mem.tail _ (List.Mem.head _))); (try have n9 := s8 _ (List.Mem.tail _ (List.Mem.tail _ (List.Mem.head _)))); (try have n9 := s8 _ (List.Mem.tail _ (List.Mem.tail _ (List.Mem.tail _ (List.Mem.head _))))); (try have n9 := s8 _ (List.Mem.tail _ (List.Mem.tail _ (List.Mem.tail _ (List.Mem.tail _ (List.Mem.head _)))))); (try have n9 := s8 _ (List.Mem.tail _ (List.Mem.tail _ (List.Mem.tail _ (List.Mem.tail _ (List.Mem.tail _ (List.Mem.head _))))))); (try have n9 := s8 _ (List.Mem.tail _ (List.Mem.tail _ (List.Mem.tail _ (List.Mem.tail _ (List.Mem.tail _ (List.Mem.tail _ (List.Mem.head _)))))))); (try have n9 := s8 _ (List.Mem.tail _ (List.Mem.tail _ (List.Mem.tail _ (List.Mem.tail _ (List.Mem.tail _ (List.Mem.tail _ (List.Mem.tail _ (List.Mem.head _))))))))); (try have n9 := s8 _ (List.Mem.tail _ (List.Mem.tail _ (List.Mem.tail _ (List.Mem.tail _ (List.Mem.tail _ (List.Mem.tail _ (List.Mem.tail _ (List.Mem.tail _ (List.Mem.head _)))))))))); (try have n9 := s8 _ (List.Mem.tail _ (List.Mem.tail _ (List.Mem.tail _ (List.Mem.tail _ (List.Mem.tail _ (List.Mem.tail _ (List.Mem.tail _ (List.Mem.tail _ (List.Mem.tail _ (List.Mem.head _))))))))))); (try have n9 := s8 _ (List.Mem.tail _ (List.Mem.tail _ (List.Mem.tail _ (List.Mem.tail _ (List.Mem.tail _ (List.Mem.tail _ (List.Mem.tail _ (List.Mem.tail _ (List.Mem.tail _ (List.Mem.tail _ (List.Mem.head _)))))))))))); (try have n9 := s8 _ (List.Mem.tail _ (List.Mem.tail _ (List.Mem.tail _ (List.Mem.tail _ (List.Mem.tail _ (List.Mem.tail _ (List.Mem.tail _ (List.Mem.tail _ (List.Mem.tail _ (List.Mem.tail _ (List.Mem.tail _ (List.Mem.head _))))))))))))); (try have n9 := s8 _ (List.Mem.tail _ (List.Mem.tail _ (List.Mem.tail _ (List.Mem.tail _ (List.Mem.tail _ (List.Mem.tail _ (List.Mem.tail _ (List.Mem.tail _ (List.Mem.tail _ (List.Mem.tail _ (List.Mem.tail _ (List.Mem.tail _ (List.Mem.head _)))))))))))))); (try have n9 := s8 _ (List.Mem.tail _ (List.Mem.tail _ (List.Mem.tail _ (List.Mem.tail _ (List.Mem.tail _ (List.Mem.tail _ (List.Mem.tail _ (List.Mem.tail _ (List.Mem.tail _ (List.Mem.tail _ (List.Mem.tail _ (List.Mem.tail _ (List.Mem.tail _ (List.Mem.head _))))))))))))))); clear s8; walk_at "execs cons")
  k_with "execs cons" => (k_here; (with_reducible rename GenOn => g9); (with_reducible rename (News _ _ _ (_ :: _)) => N9); refine genNews N9 ?_; clear N9; intro R8 s8 N'; (repeat ((with_reducible rename (_ ∈ R9) => m9); (first | replace m9 := memS1 s8 m9 | replace m9 := memS2 s8 m9 | replace m9 := memS3 s8 m9 | replace m9 := memS4 s8 m9); (with_reducible rename (_ ∈ R8) => n9))); (try have n9 := s8 _ (List.Mem.head _)); (try have n9 := s8 _ (List.Mem.tail _ (List.Mem.head _))); (try have n9 := s8 _ (List.Mem.tail _ (List.Mem.tail _ (List.Mem.head _)))); (try have n9 := s8 _ (List.Mem.tail _ (List.Mem.tail _ (List.Mem.tail _ (List.Mem.head _))))); (try have n9 := s8 _ (List.Mem.tail _ (List.Mem.tail _ (List.Mem.tail _ (List.Mem.tail _ (List.Mem.head _)))))); clear s8; (rename List (Addr × Obj) => R9); walk_at "execs cons")
  k_with "binaryOp Add int int" => (k_here; (with_reducible refine addI (by assumption) ?_); intro t9)
  k_with "binaryOp Sub int int" => (k_here; (with_reducible refine subI (by assumption) ?_); intro t9)
  k_with "binaryOp Mod int int" => (k_here; (with_reducible refine modI (by decide) (by assumption) ?_); intro t9)
  k_with "binaryOp Mult int int" => (k_here; (with_reducible refine mulI (by assumption) (by first | exact mok (.inl (by with_reducible assumption)) | exact mok (.inr (by with_reducible assumption)) | exact mokl (by exact rfl) | mul_fits) ?_); intro t9)
  k_with "binaryOp Mult int float" => (k_here; (with_reducible refine mulIF (by assumption) (by with_unfolding_all rfl) ?_); intro t9)
  k_with "binaryOp Sub int float" => (k_here; (with_reducible refine subIF (by assumption) (by with_unfolding_all rfl) ?_); intro t9)
  k_with "CompEnd" => (k_dflt (refine compEnd_same (by assumption) (by assumption) (by assumption) (by first | lcg_src | assumption) ?_))
  k_with "FinE" => (unfold LCg.FinE; intro D' h' tk' F' N' o1'; (try simp only [List.nil_append, List.cons_append] at N'); (try dsimp only))
  k_with "CompRest" => (with_unfolding_all first | (refine LCg.CompRest.succ ?_; intro v' I' oI' C' oC' D' m' h' tk' E' hv' hC' hx' F' N' off' ne'; lcg_open hv'; (have e1' := And.left ne'; have e2' := And.left (And.right ne'); have e3' := And.right (And.right ne'))) | refine LCg.CompRest.zero ?_)
  k_with "CompSrc" => (k_here; k_dflt (refine LCg.CompSrc.ledger (by rfl) (by k_asm) (by k_asm) (by k_mem) (by first | size_fits | exact Nat.le_of_ble_eq_true rfl) ?_; intro g'; lcg_lit))
  k_with "CompRest" => (k_dflt (refine rest3R (fun a c => q + a = c) (by exact hp3) (by first | lcg_src | assumption) (by with_reducible assumption) (by with_reducible assumption) (by with_reducible assumption) ?_ ?_); (focus (k_dflt (intro a9 c9 r9 t9 m9 I9 oI9 C9 oC9 D9 oD9 n9 h9 tk9 E9 Q9 hC9 hx9 F9 N9 off9 ne9 hq9); (have e1' := And.left ne9; have e2' := And.left (And.right ne9); have e3' := And.right (And.right ne9)); k_dflt k_steps; (k_dflt (refine hq9 _ _ _ ?_ ?_); all_goals assumption))); intro u9 v9 w9)
  k_with "call builtin:max" => (k_here; (with_reducible show wpAny _ _ (call (Value.builtin _) [Value.ref _]) _ _ _); k_dflt (refine max_l (by with_unfolding_all rfl) (by k_asm) (by k_asm) (by k_mem) (by with_reducible assumption) ?_); intro _ _ _ F' N'; (try dsimp only); (try k_fold))
  k_with "call builtin:min" => (k_here; (with_reducible show wpAny _ _ (call (Value.builtin _) [Value.ref _]) _ _ _); k_dflt (refine min_l (by with_unfolding_all rfl) (by k_asm) (by k_asm) (by k_mem) (by with_reducible assumption) ?_); intro _ _ _ F' N'; (try dsimp only); (try k_fold))
  k_with "k_ne" => (refine neN ?_; (try dsimp only); first | (with_reducible assumption) | (with_reducible exact Ne.symm (by assumption)) | (with_reducible exact Nat.ne_of_lt (by assumption)) | (with_reducible exact Nat.ne_of_gt (by assumption)) | (with_reducible exact Nat.ne_of_lt (ltAll (by assumption) (by k_dflt k_mem))) | (with_reducible exact Nat.ne_of_gt (ltAll (by assumption) (by k_dflt k_mem))) | (with_reducible exact Nat.ne_of_lt (ltAllS (by assumption) (by k_dflt k_mem))) | (with_reducible exact Nat.ne_of_gt (ltAllS (by assumption) (by k_dflt k_mem))) | (with_reducible exact Nat.ne_of_gt (ltAllSS (by assumption) (by k_dflt k_mem))) | (with_reducible exact Nat.ne_of_lt (ltAllSS (by assumption) (by k_dflt k_mem))) | (with_reducible exact Nat.ne_of_gt (ltAllSSS (by assumption) (by k_dflt k_mem))) | (with_reducible exact Nat.ne_of_lt (ltAllSSS (by assumption) (by k_dflt k_mem))) | (with_reducible exact Nat.ne_of_lt (ltVia (by assumption) (by assumption) (by k_dflt k_mem))) | (with_reducible exact Nat.ne_of_gt (ltVia (by assumption) (by assumption) (by k_dflt k_mem))) | (with_reducible exact neqAll (by assumption) (by k_dflt k_mem)) | (with_reducible exact Ne.symm (neqAll (by assumption) (by k_dflt k_mem))) | (with_reducible exact off1 (by assumption) (by k_dflt k_mem)) | (with_reducible exact Ne.symm (off1 (by assumption) (by k_dflt k_mem))) | (with_reducible exact offI (by assumption) (by k_dflt k_mem)) | (with_reducible exact offC (by assumption) (by k_dflt k_mem)) | (with_reducible exact offD (by assumption) (by k_dflt k_mem)) | (with_reducible exact Ne.symm (offI (by assumption) (by k_dflt k_mem))) | (with_reducible exact Ne.symm (offC (by assumption) (by k_dflt k_mem))) | (with_reducible exact Ne.symm (offD (by assumption) (by k_dflt k_mem))))
  k_with "call ref" => (k_here; k_dflt (show wpAny _ _ (call (Value.ref 68) _) _ _ _); k_dflt (refine' shares_p (by k_asm) (by k_asm) (by k_mem) (by with_reducible assumption) (by with_reducible assumption) (by with_reducible assumption) (by with_reducible assumption) (by with_reducible assumption) (by with_reducible assumption) (by with_reducible assumption) (by k_asm) (by k_asm) (by k_asm) (by first | exact rfl | assumption) (by ktr_room) (by ktr_units) _; k_whole); intro p' _ _ _ h' _ F' N' l1; (try dsimp only); (try k_fold))
  k_with "call ref" => (k_here; k_dflt (show wpAny _ _ (call (Value.ref 73) _) _ _ _); k_dflt (refine' is_w (by k_asm) (by k_asm) (by k_mem) (by k_mem) (by with_reducible assumption) (by with_reducible assumption) (by with_reducible assumption) (by with_reducible assumption) (by with_reducible assumption) (by with_reducible assumption) (by with_reducible assumption) (by with_reducible assumption) (by k_asm) (by k_asm) (by k_asm) (by first | exact rfl | assumption) (by ktr_room) (by ktr_units) _; k_whole); intro h' _ F' N'; (try dsimp only); (try k_fold))
  k_with "call ref" => (k_here; k_dflt (show wpAny _ _ (call (Value.ref 87) _) _ _ _); k_dflt (refine' seen_w (by k_asm) (by k_asm) (by k_mem) (by with_reducible assumption) (by with_reducible assumption) (by k_asm) (by k_asm) (by k_asm) (by first | exact rfl | assumption) (by ktr_room) (by ktr_units) _; k_whole); intro p' _ _ _ _ h' _ F' N' l1; (try dsimp only); (try k_fold))
  k_with "call ref" => (k_here; k_dflt (show wpAny _ _ (call (Value.ref 80) _) _ _ _); k_dflt (refine' turned_w (by k_asm) (by k_asm) (by k_mem) (by with_reducible assumption) (by with_reducible assumption) (by k_asm) (by k_asm) (by k_asm) (by first | exact rfl | assumption) (by ktr_room) (by ktr_units) _; k_whole); intro p' _ _ _ _ h' _ F' N' l1; (try dsimp only); (try k_fold))
  k_with "call ref" => (k_here; k_dflt (show wpAny _ _ (call (Value.ref 56) _) _ _ _); k_dflt (refine' hsv_k (by with_reducible assumption) (by with_reducible assumption) (by with_reducible assumption) (by with_reducible assumption) _ _ _ _ _ _ _ _ _ _ _ _ _ _ _ _ _ _ (by k_asm) (by k_asm) (by k_asm) (by k_asm) (by k_asm) (by first | exact rfl | assumption) (by ktr_room) (by ktr_units) _; k_whole); intro p' _ _ _ h' _ F' N' l1; (try dsimp only); (try k_fold))
  k_with "call ref" => (k_here; k_dflt (show wpAny _ _ (call (Value.ref 35) _) _ _ _); k_dflt (refine' hls_k (by with_reducible assumption) (by with_reducible assumption) (by with_reducible assumption) (by with_reducible assumption) _ _ _ _ _ _ _ _ _ _ _ _ _ _ _ _ _ _ (by k_asm) (by k_asm) (by k_asm) (by k_asm) (by k_asm) (by first | exact rfl | assumption) (by ktr_room) (by ktr_units) _; k_whole); intro p' _ _ _ h' _ F' N' l1; (try dsimp only); (try k_fold))
  k_with "call ref" => (k_here; k_dflt (show wpAny _ _ (call (Value.ref 21) _) _ _ _); k_dflt (refine' yiq_k (by with_reducible assumption) (by with_reducible assumption) (by with_reducible assumption) _ _ _ _ _ _ _ _ _ _ _ _ _ _ _ _ _ _ (by k_asm) (by k_asm) (by k_asm) (by k_asm) (by k_asm) (by first | exact rfl | assumption) (by ktr_room) (by ktr_units) _; k_whole); intro p' _ _ _ h' _ F' N' l1; (try dsimp only); (try k_fold))
  k_with "call ref" => (k_here; k_dflt (show wpAny _ _ (call (Value.ref 63) _) _ _ _); k_dflt (refine' hr_k (by with_reducible assumption) (by with_reducible assumption) (by with_reducible assumption) (by with_reducible assumption) _ _ _ _ _ _ _ _ _ _ _ _ _ _ _ _ _ _ (by k_asm) (by k_asm) (by k_asm) (by k_asm) (by k_asm) (by first | exact rfl | assumption) (by ktr_room) (by ktr_units) _; k_whole); intro p' _ _ _ h' _ F' N' l1; (try dsimp only); (try k_fold))
  k_with "call ref" => (k_here; k_dflt (show wpAny _ _ (call (Value.ref 42) _) _ _ _); k_dflt (refine' hlr_k (by with_reducible assumption) (by with_reducible assumption) (by with_reducible assumption) _ _ _ _ _ _ _ _ _ _ _ _ _ _ _ _ _ _ (by k_asm) (by k_asm) (by k_asm) (by k_asm) (by k_asm) (by first | exact rfl | assumption) (by ktr_room) (by ktr_units) _; k_whole); intro p' _ _ _ h' _ F' N' l1; (try dsimp only); (try k_fold))
  k_with "call ref" => (k_here; k_dflt (show wpAny _ _ (call (Value.ref 28) _) _ _ _); k_dflt (refine' yr_k (by with_reducible assumption) (by with_reducible assumption) (by with_reducible assumption) _ _ _ _ _ _ _ _ _ _ _ _ _ _ _ _ _ _ (by k_asm) (by k_asm) (by k_asm) (by k_asm) (by k_asm) (by first | exact rfl | assumption) (by ktr_room) (by ktr_units) _; k_whole); intro p' _ _ _ h' _ F' N' l1; (try dsimp only); (try k_fold))
  k_with "binaryOp Div int int" => (k_dflt (refine div_sh rfl (by first | (with_reducible assumption) | decide | omega) (by first | (with_reducible assumption) | decide | omega) (by with_reducible assumption) ?_))
  intro dp un gd cn cs a ccd cl outer A₀ base h₀ L m s Q E B' F' X' N' T' hk hd hu hret
  have N0 := N'
  w_on
  revert X'; k_fill; intro X'
  refine wpAny_call ?_
  k_dflt (refine' code_defCG ?k1 ?k2 ?k3 ?k4 ?k5 ?kA ?kF ?kK ?k6 ?k7 ?k8 ?k9 ?kB ?kD ?_ ?c2 ?c3 ?c4; (case kA => exact rfl); (case kF => exact rfl); (case kK => assumption); (case k1 => k_asm); (case k2 => k_asm); (case k3 => k_asm); (case k4 => k_asm); (case k5 => k_asm); (case k6 => k_is); (case k7 => k_is); (case k8 => ktr_room); (case k9 => first | exact BindsTo.of_eq rfl | exact binds_K (by k_in) rfl (by k_is) rfl rfl rfl | fail "k_enter: no rule for these arguments"); (case kB => exact rfl); (case kD => decide +kernel); (case c2 => exact rfl); (case c3 => exact rfl); (case c4 => exact rfl); k_whole; intro g' L' h' tk' cells' FG' F' N' Y' B' X' T' l1 GS hL; (try k_lt l1); (have hY := CellsAre.two Y'; obtain ⟨oc0, oc1, hE', dc0, dc1⟩ := hY; subst hE'; clear Y'); (try simp only [List.cons_append, List.nil_append] at N'); (try dsimp only); (try k_lift B'); (try k_fold))
  replace F' : Fr g' L' h' (fun y => if y = Str.ofString "rest" then some (.int rest tr) else if y = Str.ofString "top" then some (.int top tt) else none) := F'
  replace dc1 : oc1.data = .cell (some (.ref p)) := dc1
  k_steps
  all_goals first | exact absurd (by assumption) hpl0 | exact absurd (by assumption) hdk0 | skip
  all_goals with_reducible refine' retS_use hret N0 GS ?zf ?zkn ?zsub ?zhq ?zhp ?zn ?zhq' ?zhp' ?za ?zb ?zc
  case zf => assumption
  case zkn => assumption
  case zsub => exact fun q hq => by rw [List.mem_singleton.mp hq]; k_mem
  case zhq => k_mem
  case zhp => k_mem
  case zn => assumption
  case zhq' => k_mem
  case zhp' => k_mem
  case za => exact fun e he => by rw [List.mem_singleton.mp he]; k_ne
  case zb => exact fun e he => by rw [List.mem_singleton.mp he]; k_ne
  case zc => k_ne
end
end
section
set_option maxRecDepth 100000
section
open PySem PySem.W PySem.Calls PyProof.Rows PySem.Flt PySem.Float64
theorem Rep.cpre {r g b m sp : Int} {y : Rat} (q : Int) : RepC (r, g, b) m sp y ↔ RepC (q + r, q + g, q + b) (q + m) sp y := by
  show Rep (r : Rat) (g : Rat) (b : Rat) (m : Rat) (sp : Rat) y ↔ Rep ((q + r : Int) : Rat) ((q + g : Int) : Rat) ((q + b : Int) : Rat) ((q + m : Int) : Rat) (sp : Rat) y
  rw [Int.add_comm q r, Int.add_comm q g, Int.add_comm q b, Int.add_comm q m, Rat.intCast_add, Rat.intCast_add, Rat.intCast_add, Rat.intCast_add]
  refine ⟨Rep.shift (q : Rat), fun h => ?_⟩
  have := Rep.shift (-(q : Rat)) h
  rw [Rat.add_assoc, Rat.add_assoc, Rat.add_assoc, Rat.add_assoc, Rat.add_neg_cancel, Rat.add_zero, Rat.add_zero, Rat.add_zero, Rat.add_zero] at this
  exact this
/-- a quotient by more is less -/
theorem dv_le {a s t : Rat} (ha : 0 ≤ a) (hs : 0 < s) (h : s ≤ t) : a / t ≤ a / s := by
  have ht : 0 < t := by grind
  refine div_le_of ht ?_
  have e : a / s * s = a := Rat.div_mul_cancel (by grind)
  have q : 0 ≤ a / s := le_div_of hs (by grind)
  have := Rat.mul_le_mul_of_nonneg_left h q
  rw [e] at this
  exact this
theorem dv_4 {a t W : Rat} (ha : 0 ≤ a) (ht : 0 < t) (hW : 0 < W) (h : W ≤ 4 * t) : a / t ≤ 4 * (a / W) := by
  have := dv_le ha hW h
  rw [dv_d, dv_s] at this
  have e : a / t / 4 * 4 = a / t := Rat.div_mul_cancel (by decide)
  grind
section
variable {κ u ρ ρ' : Rat} (u0 : 0 ≤ u) (k0 : 0 ≤ κ)
include u0 k0
theorem hv_heA (r : ρ' ≤ ρ) (h : ρ * (54 * κ) ≤ 54 * u) : ρ' * (6 * (9 * κ)) ≤ 600 * u := by
  have := Rat.mul_le_mul_of_nonneg_right r k0
  grind
theorem hv_heP (r : ρ ≤ 4 * ρ') (h : ρ' * (54 * κ) ≤ 54 * u) : ρ * (6 * (9 * κ)) ≤ 600 * u := by
  have := Rat.mul_le_mul_of_nonneg_right r k0
  grind
theorem hv_s (r : ρ ≤ 2 * ρ') (r1 : ρ ≤ 1) (h : ρ' * (6 * κ) ≤ 6 * u) : ρ * (2 * (6 * κ) + u) ≤ 100 * u := by
  have := Rat.mul_le_mul_of_nonneg_right r k0
  have := Rat.mul_le_mul_of_nonneg_right r1 u0
  grind
end
theorem k6b {κ : Rat} (h : κ ≤ 1 / 10000) : 6 * κ ≤ 1 / 100 := by grind
theorem u16b : uu / 16 ≤ 1 / 100 := by decide +kernel
theorem u18 : 2 * (uu / 16) + uu ≤ 10 * uu := by decide +kernel
theorem sat_b6 {f S κ : Rat} (h : f ≤ S + (2 * (6 * κ) + uu)) (hS : S ≤ 1) (hk : κ ≤ 1 / 10000) : f ≤ 101 / 100 := by
  have us := uus
  grind
theorem le_5 {x : Rat} (h : x ≤ 1) : x ≤ 5 := Rat.le_trans h (by decide)
/-- one or two times -/
theorem one2_b {W top pl dk : Int} (h0 : 0 < top) (hp : pl = 1 ∨ pl = 2) (hd : dk = 1 ∨ dk = 2) (hW : W = top * pl * dk) : top ≤ W ∧ W ≤ 4 * top ∧ (dk = 2 → W = 2 * (top * pl)) := by
  subst hW
  rcases hp with rfl | rfl <;> rcases hd with rfl | rfl <;> refine ⟨?_, ?_, ?_⟩ <;> omega
theorem half_le {x d : Rat} (h0 : 0 ≤ x) (hd : d = 1 ∨ d = 2) : x / d ≤ x ∧ x ≤ 2 * (x / d) := by
  rcases hd with rfl | rfl <;> constructor <;> grind
theorem ne0 {d : Rat} (hd : d = 1 ∨ d = 2) : d ≠ 0 := by rcases hd with rfl | rfl <;> decide
theorem two_le {x : Rat} (h : 0 ≤ x) : x ≤ 2 * x := by grind
theorem half_one {x : Rat} (h : x ≤ 1 / 2) : x * 2 ≤ 1 := by grind
theorem hv_math {r g b top M m x y z W M2 m2 pl dk : Int} (C : Col r g b top M m) (C' : Col x y z W M2 m2) (hp : pl = 1 ∨ pl = 2) (hd : dk = 1 ∨ dk = 2) (hW : W = top * pl * dk) (hM2 : M2 = M * pl) (esp : M2 - m2 = M - m)
    (R1 : RepC (x, y, z) m2 (M2 - m2) ((hn r g b M (M - m) : Rat) / ((M - m : Int) : Rat))) (R2 : RepC (r, g, b) m (M - m) ((hn x y z M2 (M2 - m2) : Rat) / ((M2 - m2 : Int) : Rat))) :
    (Is (hsvR (hueOf (sh r top) (sh g top) (sh b top)) (div (satV (sh r top) (sh g top) (sh b top)) (ofInt pl)) (div (sh M top) (ofInt dk))) x W ∧ Is (hsvG (hueOf (sh r top) (sh g top) (sh b top)) (div (satV (sh r top) (sh g top) (sh b top)) (ofInt pl)) (div (sh M top) (ofInt dk))) y W ∧ Is (hsvB (hueOf (sh r top) (sh g top) (sh b top)) (div (satV (sh r top) (sh g top) (sh b top)) (ofInt pl)) (div (sh M top) (ofInt dk))) z W) ∧
      (Is (hsvR (hueOf (sh x W) (sh y W) (sh z W)) (mul (satV (sh x W) (sh y W) (sh z W)) (ofInt pl)) (mul (sh M2 W) (ofInt dk))) r top ∧ Is (hsvG (hueOf (sh x W) (sh y W) (sh z W)) (mul (satV (sh x W) (sh y W) (sh z W)) (ofInt pl)) (mul (sh M2 W) (ofInt dk))) g top ∧ Is (hsvB (hueOf (sh x W) (sh y W) (sh z W)) (mul (satV (sh x W) (sh y W) (sh z W)) (ofInt pl)) (mul (sh M2 W) (ofInt dk))) b top) := by
  have hm0 := C.M0
  have hu := C.hue_ap
  have hu' := C'.hue_ap
  have sa := C.satV_ap
  have sa' := C'.satV_ap
  have va := C.sM
  have va' := C'.sM
  have u0 := uu0
  obtain ⟨_, _, pc, _, _⟩ := two_ap hp
  obtain ⟨_, _, dc, _, _⟩ := two_ap hd
  obtain ⟨w1, w2, w3⟩ := one2_b C.d.p hp hd hW
  have tp := castR_pos C.d.p
  have wp := castR_pos C'.d.p
  have Wt := castR_le w1
  have W4 := castR_le w2
  rw [cast4] at W4
  have sp0 : (0 : Rat) ≤ ((M - m : Int) : Rat) := castR_nn (by omega)
  have F1 : (M2 : Rat) / W = (M : Rat) / top / dk := by rw [hW, hM2, Rat.intCast_mul, Rat.intCast_mul, Rat.intCast_mul, dv_d, Rat.mul_comm (M : Rat), Rat.mul_comm (top : Rat), dv_cc (ne0 pc)]
  have F2 : ((M - m : Int) : Rat) / M2 = ((M - m : Int) : Rat) / M / pl := by rw [hM2, Rat.intCast_mul, dv_d]
  have km := kb0 hm0.1 C.d
  have km' := kb0 C'.M0.1 C'.d
  have k0 := C.kb
  have k1 := C'.kb
  have V1 := div2_ap hd va.1 va.2.1 (le_101 va.2.2) u16b
  have V2 := mul2_ap hd va'.1 va'.2.1 (le_101 va'.2.2) u16b
  have T1 := div2_ap hp sa.1 sa.2.1 (le_101 sa.2.2) (k6b km.2)
  have T2 := mul2_ap hp sa'.1 sa'.2.1 (le_101 sa'.2.2) (k6b km'.2)
  have T2a := T2.1
  rw [esp, F2, Rat.div_mul_cancel (ne0 pc)] at T2a
  have V2a := V2.1
  rw [F1, Rat.div_mul_cancel (ne0 dc)] at V2a
  have fr := C.fr
  have hf := half_le fr.1 dc
  rw [← F1] at hf
  have S1 := part_le (a := M - m) (b := M) (by omega) (by omega)
  have hsA := hv_s u0 km.1 (Rat.le_trans hf.1 (two_le fr.1)) (Rat.le_trans hf.1 fr.2.1) C.ve
  have hsP := hv_s u0 km'.1 hf.2 fr.2.1 C'.ve
  have heA : ((M2 - m2 : Int) : Rat) / W * (6 * (9 * (uu * (top : Rat) / ((M - m : Int) : Rat)))) ≤ 600 * uu := by
    rw [esp]; exact hv_heA u0 k0.1 (dv_le sp0 tp Wt) (C.se 54 (by decide))
  have se' := C'.se 54 (by decide)
  have heP : ((M - m : Int) : Rat) / top * (6 * (9 * (uu * (W : Rat) / ((M2 - m2 : Int) : Rat)))) ≤ 600 * uu := by
    rw [esp] at k1 se' ⊢; exact hv_heP u0 k1.1 (dv_4 sp0 tp wp W4) se'
  have vP : fv (mul (sh M2 W) (ofInt dk)) ≤ 1 := V2.2.2 (by
    rcases hd with e | e
    · rw [e, i1, Rat.mul_one]; exact va'.2.2
    · have hM1 := Int.mul_le_mul_of_nonneg_right hm0.2.1 (show 0 ≤ pl by omega)
      have := sh_halfle C'.d C'.M0.1 (show 2 * M2 ≤ W by rw [w3 e, hM2]; omega)
      rw [e, i2]; exact half_one this)
  exact ⟨hsv_out C' R1 hu.2.1 (le_5 hu.2.2) T1.2.1 T1.2.2.2 V1.2.1 (V1.2.2.1 va.2.2) (by rw [F1]; exact V1.1) (by rw [esp, F2]; exact T1.1) hu.1 u18 hsA heA,
    hsv_out C R2 hu'.2.1 (le_5 hu'.2.2) T2.2.1 (sat_b6 T2a.hi S1 km'.2) V2.2.1 vP V2a T2a hu'.1 u18 hsP heP⟩
theorem one2 {a p : Int} (h : a = 0 ∨ a = 1) (e : 1 + a = p) : p = 1 ∨ p = 2 := by
  subst e
  rcases h with rfl | rfl
  · exact .inl rfl
  · exact .inr rfl
theorem one40 {p : Int} (h : p = 1 ∨ p = 2) : p.natAbs < 2 ^ 40 ∧ (p - 1).natAbs < 2 ^ 40 := by rcases h with rfl | rfl <;> decide
theorem one_ne {p : Int} (h : p = 1 ∨ p = 2) : p ≠ 0 := by rcases h with rfl | rfl <;> decide
theorem q_b {M top pl q : Int} (h0 : 0 ≤ M) (_ : M ≤ top) (h : pl = 1 ∨ pl = 2) (e : M * (pl - 1) = q) : 0 ≤ q ∧ q + M = M * pl := by
  subst e
  rcases h with rfl | rfl <;> constructor <;> omega
theorem w_b {top pl dk W : Int} (h0 : 0 < top) (hp : pl = 1 ∨ pl = 2) (hd : dk = 1 ∨ dk = 2) (e : W = top * pl * dk) : top * pl ≤ W := by
  subst e
  rcases hp with rfl | rfl <;> rcases hd with rfl | rfl <;> omega
theorem hv_stepM {w : World} {mean : ExcName → Option Value} {mg mb : Str → Option Value} (p : Addr) (n : Nat) (r g b top rest : Int) (t1 t2 t3 tt tr : Tok) (hr : 0 ≤ r ∧ r ≤ top) (hg : 0 ≤ g ∧ g ≤ top) (hb : 0 ≤ b ∧ b ≤ top) (h0 : 0 < top) (h1 : top ≤ 4096)
    (M m : Int) (hM : max (max r g) b = M) (hm : min (min r g) b = m) (pl dk q W : Int) (epl : 1 + rest.fmod 2 = pl) (edk : 1 + (rest.fdiv 2).fmod 2 = dk) (eq : M * (pl - 1) = q) (eW : top * pl * dk = W) : ConL 16 w mean mg mb 104 [.ref p, .int top tt, .int rest tr] [(p, in3 n r g b t1 t2 t3)] StepRet := by
  have C : Col r g b top M m := ⟨⟨h0, Int.le_trans h1 (by decide)⟩, hr.1, hr.2, hg.1, hg.2, hb.1, hb.2, hM, hm⟩
  have hp : pl = 1 ∨ pl = 2 := one2 (fm2 rest) epl
  have hd : dk = 1 ∨ dk = 2 := one2 (fm2 (rest.fdiv 2)) edk
  have wb := one2_b h0 hp hd eW.symm
  have qb := q_b C.M0.1 C.M0.2.1 hp eq
  have wq := w_b h0 hp hd eW.symm
  have mm := mm_add q hM hm
  have C' : Col (q + r) (q + g) (q + b) W (q + M) (q + m) := by
    have d : Dep W := ⟨Int.lt_of_lt_of_le h0 wb.1, Int.le_trans wb.2.1 (Int.mul_le_mul_of_nonneg_left h1 (by decide))⟩
    have bd := bnd3 mm.1 mm.2 (Int.add_nonneg qb.1 C.M0.2.2.1) (show q + M ≤ W by rw [qb.2]; exact Int.le_trans (Int.mul_le_mul_of_nonneg_right C.M0.2.1 (by omega)) wq)
    exact ⟨d, bd.1.1, bd.1.2, bd.2.1.1, bd.2.1.2, bd.2.2.1, bd.2.2.2, mm.1, mm.2⟩
  have esp : q + M - (q + m) = M - m := Int.add_sub_add_left ..
  have I := hv_math C C' hp hd eW.symm qb.2 esp (by rw [esp]; exact (Rep.cpre q).mp C.rep) (by have := C'.rep; rw [esp] at this ⊢; exact (Rep.cpre q).mpr this)
  have t4 := C.d.q
  have t4' := C'.d.q
  obtain ⟨_, _, _, pz, pn⟩ := two_ap hp
  obtain ⟨_, _, _, dz, dn⟩ := two_ap hd
  have hu := C.hue_ap
  have hu' := C'.hue_ap
  exact step_of ⟨C'.r0, C'.r1⟩ ⟨C'.g0, C'.g1⟩ ⟨C'.b0, C'.b1⟩ C'.d.p t4'
    (hv_ok p n r g b top rest t1 t2 t3 tt tr (small40 hr.1 hr.2 t4) (small40 hg.1 hg.2 t4) (small40 hb.1 hb.2 t4) (Int.ne_of_gt h0) h0 (lt40 t4) pl (pl - 1) dk q _ _ _ _ W M (max_of hM) _ _ _ _ _ _ _ _ _ _ _ _ _ _ _ _ _ _ 
      (small40 C'.r0 C'.r1 t4') (small40 C'.g0 C'.g1 t4') (small40 C'.b0 C'.b1 t4') (one40 hp).1 (one40 hp).2 (one40 hd).1 C'.d.p (lt40 t4') (one_ne hp) (one_ne hd) epl edk rfl eq rfl rfl rfl rfl eW rfl rfl rfl rfl rfl C.max C.zV rfl rfl rfl rfl rfl C'.max C'.zV pn pz dn dz
      rfl rfl rfl (fun _ => sec_fit hu.1.fin hu.2.1 (le_5 hu.2.2)) rfl rfl rfl (fun _ => sec_fit hu'.1.fin hu'.2.1 (le_5 hu'.2.2)) I.1.1 I.1.2.1 I.1.2.2 I.2.1 I.2.2.1 I.2.2.2)
theorem hv_step {w : World} {mean : ExcName → Option Value} {mg mb : Str → Option Value} : StepC w mean mg mb 104 := fun p n r g b top rest t1 t2 t3 tt tr hr hg hb h0 h1 => hv_stepM p n r g b top rest t1 t2 t3 tt tr hr hg hb h0 h1 _ _ rfl rfl _ _ _ _ rfl rfl rfl rfl
end
end
section
open PySem PySem.W PyProof.Rows
set_option maxRecDepth 100000
section
set_option maxHeartbeats 8000000 in
theorem ha_ok {w : World} {mean : ExcName → Option Value} {mg mb : Str → Option Value} (p : Addr) (n : Nat) (r g b top rest : Int) (t1 t2 t3 tt tr : Tok) (hr : r.natAbs < 2 ^ 40) (hg : g.natAbs < 2 ^ 40) (hb : b.natAbs < 2 ^ 40) (htop : top ≠ 0) (htop0 : 0 < top) (htop1 : top < 2 ^ 40) (sx bo x0 y0 z0 W x y z : Int) (M m : Int) (hM : ∀ x : Int, (x = r ∨ x = g ∨ x = b) → (r ≤ x ∧ g ≤ x ∧ b ≤ x) → x = M) (hm : ∀ x : Int, (x = r ∨ x = g ∨ x = b) → (x ≤ r ∧ x ≤ g ∧ x ≤ b) → x = m) (both : Int) (R0 G0 B0 H0 S0 V0 R1 G1 B1 H1 S1 V1 D6 A1 A2 A3 P1 P2 P3 : UInt64) (h4x : x.natAbs < 2 ^ 40) (h4y : y.natAbs < 2 ^ 40) (h4z : z.natAbs < 2 ^ 40) (h4sx : sx.natAbs < 2 ^ 40) (hdp0 : 0 < W) (hdp1 : W < 2 ^ 40)
   (esx : rest.fmod 12 - 6 = sx) (eW : 4 * top = W) (ebo : M + m = bo) (ex0 : bo + 2 * r = x0) (ey0 : bo + 2 * g = y0) (ez0 : bo + 2 * b = z0) (et : turnN both (sx.fmod 6).toNat (x0, y0, z0) = (x, y, z)) (hboth : ∀ X Y : Int, (X = x0 ∨ X = y0 ∨ X = z0) → (x0 ≤ X ∧ y0 ≤ X ∧ z0 ≤ X) → (Y = x0 ∨ Y = y0 ∨ Y = z0) → (Y ≤ x0 ∧ Y ≤ y0 ∧ Y ≤ z0) → X + Y = both)
   (eR0 : sh r top = R0) (eG0 : sh g top = G0) (eB0 : sh b top = B0) (eH0 : hueOf R0 G0 B0 = H0) (eL0 : light R0 G0 B0 = V0) (eS0 : satL R0 G0 B0 = S0) (z0 : grey R0 G0 B0 = false → ¬ Float64.isZero (rg R0 G0 B0) = true ∧ (fle (light R0 G0 B0) cHalf = true → ¬ Float64.isZero (Float64.add (fmax3 R0 G0 B0) (fmin3 R0 G0 B0)) = true) ∧ (fle (light R0 G0 B0) cHalf = false → ¬ Float64.isZero (Float64.sub (Float64.sub c2 (fmax3 R0 G0 B0)) (fmin3 R0 G0 B0)) = true))
   (eR1 : sh x W = R1) (eG1 : sh y W = G1) (eB1 : sh z W = B1) (eH1 : hueOf R1 G1 B1 = H1) (eL1 : light R1 G1 B1 = V1) (eS1 : satL R1 G1 B1 = S1) (z1 : grey R1 G1 B1 = false → ¬ Float64.isZero (rg R1 G1 B1) = true ∧ (fle (light R1 G1 B1) cHalf = true → ¬ Float64.isZero (Float64.add (fmax3 R1 G1 B1) (fmin3 R1 G1 B1)) = true) ∧ (fle (light R1 G1 B1) cHalf = false → ¬ Float64.isZero (Float64.sub (Float64.sub c2 (fmax3 R1 G1 B1)) (fmin3 R1 G1 B1)) = true))
   (eD : sh sx 6 = D6) (hf2 : (2 : Int).natAbs < 2 ^ 1024 - 2 ^ 970) (hz2 : ¬ Float64.isZero (Float64.ofInt 2) = true)
   (eA1 : hlsR (Float64.add H0 D6) V0 (Float64.div S0 (Float64.ofInt 2)) = A1) (eA2 : hlsG (Float64.add H0 D6) V0 (Float64.div S0 (Float64.ofInt 2)) = A2) (eA3 : hlsB (Float64.add H0 D6) V0 (Float64.div S0 (Float64.ofInt 2)) = A3)
   (eP1 : hlsR (Float64.sub H1 D6) V1 (Float64.mul S1 (Float64.ofInt 2)) = P1) (eP2 : hlsG (Float64.sub H1 D6) V1 (Float64.mul S1 (Float64.ofInt 2)) = P2) (eP3 : hlsB (Float64.sub H1 D6) V1 (Float64.mul S1 (Float64.ofInt 2)) = P3)
   (iA1 : Is A1 x W) (iA2 : Is A2 y W) (iA3 : Is A3 z W) (iP1 : Is P1 r top) (iP2 : Is P2 g top) (iP3 : Is P3 b top) :
   ConL 16 w mean mg mb 109 [.ref p, .int top tt, .int rest tr] [(p, in3 n r g b t1 t2 t3)] (RetS x y z W) := by
  k_with_none
  k_with "omega" => (with_reducible assumption)
  k_with "ktr_room" => first | exact rm1 (by with_reducible assumption) (by exact rfl) | exact rm0 hd
  k_with "ktr_units" => exact rm1 (by with_reducible assumption) (by exact rfl)
  k_with "size_fits" => exact szle (by exact rfl)
  k_with "k_room" => ktr_room
  k_with "k_ne" => (refine neN ?_; (try dsimp only); first | (with_reducible assumption) | (with_reducible exact Ne.symm (by assumption)) | (with_reducible exact Nat.ne_of_lt (by assumption)) | (with_reducible exact Nat.ne_of_gt (by assumption)) | (with_reducible exact Nat.ne_of_lt (ltAll (by assumption) (by k_dflt k_mem))) | (with_reducible exact Nat.ne_of_gt (ltAll (by assumption) (by k_dflt k_mem))) | (with_reducible exact Nat.ne_of_lt (ltAllS (by assumption) (by k_dflt k_mem))) | (with_reducible exact Nat.ne_of_gt (ltAllS (by assumption) (by k_dflt k_mem))) | (with_reducible exact Nat.ne_of_gt (ltAllSS (by assumption) (by k_dflt k_mem))) | (with_reducible exact Nat.ne_of_lt (ltAllSS (by assumption) (by k_dflt k_mem))) | (with_reducible exact Nat.ne_of_gt (ltAllSSS (by assumption) (by k_dflt k_mem))) | (with_reducible exact Nat.ne_of_lt (ltAllSSS (by assumption) (by k_dflt k_mem))) | (with_reducible exact Nat.ne_of_lt (ltVia (by assumption) (by assumption) (by k_dflt k_mem))) | (with_reducible exact Nat.ne_of_gt (ltVia (by assumption) (by assumption) (by k_dflt k_mem))) | (with_reducible exact off1 (by assumption) (by k_dflt k_mem)) | (with_reducible exact Ne.symm (off1 (by assumption) (by k_dflt k_mem))) | (with_reducible exact offI (by assumption) (by k_dflt k_mem)) | (with_reducible exact offC (by assumption) (by k_dflt k_mem)) | (with_reducible exact offD (by assumption) (by k_dflt k_mem)) | (with_reducible exact Ne.symm (offI (by assumption) (by k_dflt k_mem))) | (with_reducible exact Ne.symm (offC (by assumption) (by k_dflt k_mem))) | (with_reducible exact Ne.symm (offD (by assumption) (by k_dflt k_mem))))
  k_with "k_lt" => skip
  k_with "k_all" => (with_reducible exact neAll (by assumption))
  k_with "execs cons" => (k_here; (with_reducible show wpAny _ _ _ _ _ (Shared.mk _ _ _ (HAdd.hAdd _ _) _)); refine genTok ?_; intro tk')
  k_with "execs nil" => (k_here; (with_reducible show wpAny _ _ _ _ _ (Shared.mk _ _ _ (HAdd.hAdd _ _) _)); refine genTok ?_; intro tk')
  k_with "execs cons" => (k_here; (rename News _ _ _ _ => N9); dsimp only at N9; walk_at "execs cons")
  k_with "execs cons" => (k_here; (rename Fr _ _ _ _ => F9); dsimp only at F9; walk_at "execs cons")
  k_with "k_mem" => (first | (with_reducible assumption) | exact List.Mem.head _ | (refine' memT ?_; k_mem))
  k_with "execs cons" => (k_here; (with_reducible rename (Fr _ _ _ (fun y => ite (y = Str.ofString "told") _ _)) => F8); (with_reducible rename (News _ _ _ (_ :: _)) => N9); (have g9 := genOn); refine genNews N9 ?_; clear N9; intro R9 s8 N'; (try have n9 := s8 _ (List.Mem.head _)); (try have n9 := s8 _ (List.Mem.tail _ (List.Mem.head _))); (try have n9 := s8 _ (List.Mem.tail _ (List.Mem.tail _ (List.Mem.head _)))); (try have n9 := s8 _ (List.Mem.tail _ (List.Mem.tail _ (List.Mem.tail _ (List.Mem.head _))))); (try have n9 := s8 _ (List.Mem.tail _ (List.Mem.tail _ (List.Mem.tail _ (List.Mem.tail _ (List.Mem.head _)))))); (try have n9 := s8 _ (List.Mem.tail _ (List.Mem.tail _ (List.Mem.tail _ (List.Mem.tail _ (List.Mem.tail _ (List.Mem.head _))))))); (try have n9 := s8 _ (List.Mem.tail _ (List.Mem.tail _ (List.Mem.tail _ (List.Mem.tail _ (List.Mem.tail _ (List.Mem.tail _ (List.Mem.head _)))))))); (try have n9 := s8 _ (List.Mem.tail _ (List.Mem.tail _ (List.Mem.tail _ (List.Mem.tail _ (List.Mem.tail _ (List.Mem.tail _ (List.Mem.tail _ (List.Mem.head _))))))))); (try have n9 := s8 _ (List.Mem.tail _ (List.Mem.tail _ (List.Mem.tail _ (List.Mem.tail _ (List.Mem.tail _ (List.Mem.tail _ (List.Mem.tail _ (List.Mem.tail _ (List.Mem.head _)))))))))); (try have n9 := s8 _ (List.Mem.tail _ (List.Mem.tail _ (List.Mem.tail _ (List.Mem.tail _ (List.Mem.tail _ (List.Mem.tail _ (List.Mem.tail _ (List.Mem.tail _ (List.Mem.tail _ (List.Mem.head _))))))))))); (try have n9 := s8 _ (List.Mem.tail _ (List.Mem.tail _ (List.Mem.tail _ (List.Mem.tail _ (List.Mem.tail _ (List.Mem.tail _ (List.Mem.tail _ (List.Mem.tail _ (List.Mem.tail _ (List.Mem.tail _ (List.Mem.head _)))))))))))); (try have n9 := s8 _ (List.Mem.tail _ (List.Mem.tail _ (List.Mem.tail _ (List.Mem.tail _ (List.Mem.tail _ (List.Mem.tail _ (List.Mem.tail _ (List.Mem.tail _ (List.Mem.tail _ (List.Mem.tail _ (List.Mem.tail _ (List.Mem.head _))))))))))))); (try have n9 := s8 _ (List.Mem.tail _ (List.Mem.tail _ (List.Mem.tail _ (List.Mem.tail _ (List.Mem.tail _ (List.Mem.tail _ (List.Mem.tail _ (List.Mem.tail _ (List.Mem.tail _ (List.Mem.tail _ (List.Mem.tail _ (List.Mem.tail _ (List.Mem.head _)))))))))))))); (try have n9 := s8 _ (List.Mem.tail _ (List.Mem.tail _ (List.Mem.tail _ (List.Mem.tail _ (List.Mem.tail _ (List.Mem.tail _ (List.Mem.tail _ (List.Mem.tail _ (List.Mem.tail _ (List.Mem.tail _ (List.Mem.tail _ (List.Mem.tail _ (List.Mem.tail _ (List.Mem.head _))))))))))))))); clear s8; walk_at "execs cons")
  k_with "execs cons" => (k_here; (with_reducible rename GenOn => g9); (with_reducible rename (News _ _ _ (_ :: _)) => N9); refine genNews N9 ?_; clear N9; intro R8 s8 N'; (repeat ((with_reducible rename (_ ∈ R9) => m9); (first | replace m9 := memS1 s8 m9 | replace m9 := memS2 s8 m9 | replace m9 := memS3 s8 m9 | replace m9 := memS4 s8 m9); (with_reducible rename (_ ∈ R8) => n9))); (try have n9 := s8 _ (List.Mem.head _)); (try have n9 := s8 _ (List.Mem.tail _ (List.Mem.head _))); (try have n9 := s8 _ (List.Mem.tail _ (List.Mem.tail _ (List.Mem.head _)))); (try have n9 := s8 _ (List.Mem.tail _ (List.Mem.tail _ (List.Mem.tail _ (List.Mem.head _))))); (try have n9 := s8 _ (List.Mem.tail _ (List.Mem.tail _ (List.Mem.tail _ (List.Mem.tail _ (List.Mem.head _)))))); clear s8; (rename List (Addr × Obj) => R9); walk_at "execs cons")
  k_with "binaryOp Add int int" => (k_here; (with_reducible refine addI (by assumption) ?_); intro t9)
  k_with "binaryOp Sub int int" => (k_here; (with_reducible refine subI (by assumption) ?_); intro t9)
  k_with "binaryOp Mod int int" => (k_here; (with_reducible refine modI (by decide) (by assumption) ?_); intro t9)
  k_with "binaryOp Mult int int" => (k_here; (with_reducible refine mulI (by assumption) (by first | exact mok (.inl (by with_reducible assumption)) | exact mok (.inr (by with_reducible assumption)) | exact mokl (by exact rfl) | mul_fits) ?_); intro t9)
  k_with "binaryOp Mult int float" => (k_here; (with_reducible refine mulIF (by assumption) (by with_unfolding_all rfl) ?_); intro t9)
  k_with "binaryOp Sub int float" => (k_here; (with_reducible refine subIF (by assumption) (by with_unfolding_all rfl) ?_); intro t9)
  k_with "CompEnd" => (k_dflt (refine compEnd_same (by assumption) (by assumption) (by assumption) (by first | lcg_src | assumption) ?_))
  k_with "FinE" => (unfold LCg.FinE; intro D' h' tk' F' N' o1'; (try simp only [List.nil_append, List.cons_append] at N'); (try dsimp only))
  k_with "CompRest" => (with_unfolding_all first | (refine LCg.CompRest.succ ?_; intro v' I' oI' C' oC' D' m' h' tk' E' hv' hC' hx' F' N' off' ne'; lcg_open hv'; (have e1' := And.left ne'; have e2' := And.left (And.right ne'); have e3' := And.right (And.right ne'))) | refine LCg.CompRest.zero ?_)
  k_with "CompSrc" => (k_here; k_dflt (refine LCg.CompSrc.ledger (by rfl) (by k_asm) (by k_asm) (by k_mem) (by first | size_fits | exact Nat.le_of_ble_eq_true rfl) ?_; intro g'; lcg_lit))
  k_with "CompRest" => (k_dflt (refine rest3R (fun a c => bo + 2 * a = c) (by exact hp3) (by first | lcg_src | assumption) (by with_reducible assumption) (by with_reducible assumption) (by with_reducible assumption) ?_ ?_); (focus (k_dflt (intro a9 c9 r9 t9 m9 I9 oI9 C9 oC9 D9 oD9 n9 h9 tk9 E9 Q9 hC9 hx9 F9 N9 off9 ne9 hq9); (have e1' := And.left ne9; have e2' := And.left (And.right ne9); have e3' := And.right (And.right ne9)); k_dflt k_steps; (k_dflt (refine hq9 _ _ _ ?_ ?_); all_goals assumption))); intro u9 v9 w9)
  k_with "call builtin:max" => (k_here; (with_reducible show wpAny _ _ (call (Value.builtin _) [Value.ref _]) _ _ _); k_dflt (refine max_l (by with_unfolding_all rfl) (by k_asm) (by k_asm) (by k_mem) (by with_reducible assumption) ?_); intro _ _ _ F' N'; (try dsimp only); (try k_fold))
  k_with "call builtin:min" => (k_here; (with_reducible show wpAny _ _ (call (Value.builtin _) [Value.ref _]) _ _ _); k_dflt (refine min_l (by with_unfolding_all rfl) (by k_asm) (by k_asm) (by k_mem) (by with_reducible assumption) ?_); intro _ _ _ F' N'; (try dsimp only); (try k_fold))
  k_with "k_ne" => (refine neN ?_; (try dsimp only); first | (with_reducible assumption) | (with_reducible exact Ne.symm (by assumption)) | (with_reducible exact Nat.ne_of_lt (by assumption)) | (with_reducible exact Nat.ne_of_gt (by assumption)) | (with_reducible exact Nat.ne_of_lt (ltAll (by assumption) (by k_dflt k_mem))) | (with_reducible exact Nat.ne_of_gt (ltAll (by assumption) (by k_dflt k_mem))) | (with_reducible exact Nat.ne_of_lt (ltAllS (by assumption) (by k_dflt k_mem))) | (with_reducible exact Nat.ne_of_gt (ltAllS (by assumption) (by k_dflt k_mem))) | (with_reducible exact Nat.ne_of_gt (ltAllSS (by assumption) (by k_dflt k_mem))) | (with_reducible exact Nat.ne_of_lt (ltAllSS (by assumption) (by k_dflt k_mem))) | (with_reducible exact Nat.ne_of_gt (ltAllSSS (by assumption) (by k_dflt k_mem))) | (with_reducible exact Nat.ne_of_lt (ltAllSSS (by assumption) (by k_dflt k_mem))) | (with_reducible exact Nat.ne_of_lt (ltVia (by assumption) (by assumption) (by k_dflt k_mem))) | (with_reducible exact Nat.ne_of_gt (ltVia (by assumption) (by assumption) (by k_dflt k_mem))) | (with_reducible exact neqAll (by assumption) (by k_dflt k_mem)) | (with_reducible exact Ne.symm (neqAll (by assumption) (by k_dflt k_mem))) | (with_reducible exact off1 (by assumption) (by k_dflt k_mem)) | (with_reducible exact Ne.symm (off1 (by assumption) (by k_dflt k_mem))) | (with_reducible exact offI (by assumption) (by k_dflt k_mem)) | (with_reducible exact offC (by assumption) (by k_dflt k_mem)) | (with_reducible exact offD (by assumption) (by k_dflt k_mem)) | (with_reducible exact Ne.symm (offI (by assumption) (by k_dflt k_mem))) | (with_reducible exact Ne.symm (offC (by assumption) (by k_dflt k_mem))) | (with_reducible exact Ne.symm (offD (by assumption) (by k_dflt k_mem))))
  k_with "call ref" => (k_here; k_dflt (show wpAny _ _ (call (Value.ref 68) _) _ _ _); k_dflt (refine' shares_p (by k_asm) (by k_asm) (by k_mem) (by with_reducible assumption) (by with_reducible assumption) (by with_reducible assumption) (by with_reducible assumption) (by with_reducible assumption) (by with_reducible assumption) (by with_reducible assumption) (by k_asm) (by k_asm) (by k_asm) (by first | exact rfl | assumption) (by ktr_room) (by ktr_units) _; k_whole); intro p' _ _ _ h' _ F' N' l1; (try dsimp only); (try k_fold))
  k_with "call ref" => (k_here; k_dflt (show wpAny _ _ (call (Value.ref 73) _) _ _ _); k_dflt (refine' is_w (by k_asm) (by k_asm) (by k_mem) (by k_mem) (by with_reducible assumption) (by with_reducible assumption) (by with_reducible assumption) (by with_reducible assumption) (by with_reducible assumption) (by with_reducible assumption) (by with_reducible assumption) (by with_reducible assumption) (by k_asm) (by k_asm) (by k_asm) (by first | exact rfl | assumption) (by ktr_room) (by ktr_units) _; k_whole); intro h' _ F' N'; (try dsimp only); (try k_fold))
  k_with "call ref" => (k_here; k_dflt (show wpAny _ _ (call (Value.ref 87) _) _ _ _); k_dflt (refine' seen_w (by k_asm) (by k_asm) (by k_mem) (by with_reducible assumption) (by with_reducible assumption) (by k_asm) (by k_asm) (by k_asm) (by first | exact rfl | assumption) (by ktr_room) (by ktr_units) _; k_whole); intro p' _ _ _ _ h' _ F' N' l1; (try dsimp only); (try k_fold))
  k_with "call ref" => (k_here; k_dflt (show wpAny _ _ (call (Value.ref 80) _) _ _ _); k_dflt (refine' turned_w (by k_asm) (by k_asm) (by k_mem) (by with_reducible assumption) (by with_reducible assumption) (by k_asm) (by k_asm) (by k_asm) (by first | exact rfl | assumption) (by ktr_room) (by ktr_units) _; k_whole); intro p' _ _ _ _ h' _ F' N' l1; (try dsimp only); (try k_fold))
  k_with "call ref" => (k_here; k_dflt (show wpAny _ _ (call (Value.ref 56) _) _ _ _); k_dflt (refine' hsv_k (by with_reducible assumption) (by with_reducible assumption) (by with_reducible assumption) (by with_reducible assumption) _ _ _ _ _ _ _ _ _ _ _ _ _ _ _ _ _ _ (by k_asm) (by k_asm) (by k_asm) (by k_asm) (by k_asm) (by first | exact rfl | assumption) (by ktr_room) (by ktr_units) _; k_whole); intro p' _ _ _ h' _ F' N' l1; (try dsimp only); (try k_fold))
  k_with "call ref" => (k_here; k_dflt (show wpAny _ _ (call (Value.ref 35) _) _ _ _); k_dflt (refine' hls_k (by with_reducible assumption) (by with_reducible assumption) (by with_reducible assumption) (by with_reducible assumption) _ _ _ _ _ _ _ _ _ _ _ _ _ _ _ _ _ _ (by k_asm) (by k_asm) (by k_asm) (by k_asm) (by k_asm) (by first | exact rfl | assumption) (by ktr_room) (by ktr_units) _; k_whole); intro p' _ _ _ h' _ F' N' l1; (try dsimp only); (try k_fold))
  k_with "call ref" => (k_here; k_dflt (show wpAny _ _ (call (Value.ref 21) _) _ _ _); k_dflt (refine' yiq_k (by with_reducible assumption) (by with_reducible assumption) (by with_reducible assumption) _ _ _ _ _ _ _ _ _ _ _ _ _ _ _ _ _ _ (by k_asm) (by k_asm) (by k_asm) (by k_asm) (by k_asm) (by first | exact rfl | assumption) (by ktr_room) (by ktr_units) _; k_whole); intro p' _ _ _ h' _ F' N' l1; (try dsimp only); (try k_fold))
  k_with "call ref" => (k_here; k_dflt (show wpAny _ _ (call (Value.ref 63) _) _ _ _); k_dflt (refine' hr_k (by with_reducible assumption) (by with_reducible assumption) (by with_reducible assumption) (by with_reducible assumption) _ _ _ _ _ _ _ _ _ _ _ _ _ _ _ _ _ _ (by k_asm) (by k_asm) (by k_asm) (by k_asm) (by k_asm) (by first | exact rfl | assumption) (by ktr_room) (by ktr_units) _; k_whole); intro p' _ _ _ h' _ F' N' l1; (try dsimp only); (try k_fold))
  k_with "call ref" => (k_here; k_dflt (show wpAny _ _ (call (Value.ref 42) _) _ _ _); k_dflt (refine' hlr_k (by with_reducible assumption) (by with_reducible assumption) (by with_reducible assumption) _ _ _ _ _ _ _ _ _ _ _ _ _ _ _ _ _ _ (by k_asm) (by k_asm) (by k_asm) (by k_asm) (by k_asm) (by first | exact rfl | assumption) (by ktr_room) (by ktr_units) _; k_whole); intro p' _ _ _ h' _ F' N' l1; (try dsimp only); (try k_fold))
  k_with "call ref" => (k_here; k_dflt (show wpAny _ _ (call (Value.ref 28) _) _ _ _); k_dflt (refine' yr_k (by with_reducible assumption) (by with_reducible assumption) (by with_reducible assumption) _ _ _ _ _ _ _ _ _ _ _ _ _ _ _ _ _ _ (by k_asm) (by k_asm) (by k_asm) (by k_asm) (by k_asm) (by first | exact rfl | assumption) (by ktr_room) (by ktr_units) _; k_whole); intro p' _ _ _ h' _ F' N' l1; (try dsimp only); (try k_fold))
  k_with "binaryOp Div int int" => (k_dflt (refine div_sh rfl (by first | (with_reducible assumption) | decide | omega) (by first | (with_reducible assumption) | decide | omega) (by with_reducible assumption) ?_))
  intro dp un gd cn cs a ccd cl outer A₀ base h₀ L m s Q E B' F' X' N' T' hk hd hu hret
  have N0 := N'
  w_on
  revert X'; k_fill; intro X'
  refine wpAny_call ?_
  k_dflt (refine' code_defCG ?k1 ?k2 ?k3 ?k4 ?k5 ?kA ?kF ?kK ?k6 ?k7 ?k8 ?k9 ?kB ?kD ?_ ?c2 ?c3 ?c4; (case kA => exact rfl); (case kF => exact rfl); (case kK => assumption); (case k1 => k_asm); (case k2 => k_asm); (case k3 => k_asm); (case k4 => k_asm); (case k5 => k_asm); (case k6 => k_is); (case k7 => k_is); (case k8 => ktr_room); (case k9 => first | exact BindsTo.of_eq rfl | exact binds_K (by k_in) rfl (by k_is) rfl rfl rfl | fail "k_enter: no rule for these arguments"); (case kB => exact rfl); (case kD => decide +kernel); (case c2 => exact rfl); (case c3 => exact rfl); (case c4 => exact rfl); k_whole; intro g' L' h' tk' cells' FG' F' N' Y' B' X' T' l1 GS hL; (try k_lt l1); (have hY := CellsAre.one Y'; obtain ⟨oc0, hE', dc0⟩ := hY; subst hE'; clear Y'); (try simp only [List.cons_append, List.nil_append] at N'); (try dsimp only); (try k_lift B'); (try k_fold))
  replace F' : Fr g' L' h' (fun y => if y = Str.ofString "rest" then some (.int rest tr) else if y = Str.ofString "top" then some (.int top tt) else if y = Str.ofString "colour" then some (.ref p) else none) := F'
  k_steps
  all_goals first | skip
  all_goals with_reducible refine' retS_use hret N0 GS ?zf ?zkn ?zsub ?zhq ?zhp ?zn ?zhq' ?zhp' ?za ?zb ?zc
  case zf => assumption
  case zkn => assumption
  case zsub => exact fun q hq => by rw [List.mem_singleton.mp hq]; k_mem
  case zhq => k_mem
  case zhp => k_mem
  case zn => assumption
  case zhq' => k_mem
  case zhp' => k_mem
  case za => exact fun e he => by rw [List.mem_singleton.mp he]; k_ne
  case zb => exact fun e he => by rw [List.mem_singleton.mp he]; k_ne
  case zc => k_ne
end
end
section
set_option maxRecDepth 100000
section
open PySem PySem.W PySem.Calls PyProof.Rows PySem.Flt PySem.Float64
theorem Rep.two {r g b m sp y : Rat} (q : Rat) (h : Rep (q + 2 * r) (q + 2 * g) (q + 2 * b) (q + 2 * m) (2 * sp) y) : Rep r g b m sp y := by
  have hr := h.r; have hg := h.g; have hb := h.b
  have key : ∀ a t : Rat, q + 2 * a = q + 2 * m + 2 * sp * t → a = m + sp * t := fun a t e => by grind
  exact ⟨key _ _ hr, key _ _ hg, key _ _ hb⟩
theorem Rep.c2 {r g b m sp s2 : Int} {y : Rat} (q : Int) (hs : s2 = 2 * sp) : RepC (r, g, b) m sp y ↔ RepC (q + 2 * r, q + 2 * g, q + 2 * b) (q + 2 * m) s2 y := by
  subst hs
  have c : ∀ a : Int, ((q + 2 * a : Int) : Rat) = (q : Rat) + 2 * (a : Rat) := fun a => by rw [Rat.intCast_add, cast2]
  show Rep (r : Rat) (g : Rat) (b : Rat) (m : Rat) (sp : Rat) y ↔ Rep ((q + 2 * r : Int) : Rat) ((q + 2 * g : Int) : Rat) ((q + 2 * b : Int) : Rat) ((q + 2 * m : Int) : Rat) ((2 * sp : Int) : Rat) y
  rw [c, c, c, c, cast2]
  refine ⟨fun h => ?_, Rep.two (q : Rat)⟩
  have := Rep.shift (q : Rat) (Rep.scale 2 h)
  rw [Rat.add_comm _ (q : Rat), Rat.add_comm _ (q : Rat), Rat.add_comm _ (q : Rat), Rat.add_comm _ (q : Rat)] at this
  exact this
-- small sums of small numbers
section
variable {κ u ρ : Rat} (u0 : 0 ≤ u) (k0 : 0 ≤ κ) (r0 : 0 ≤ ρ) (r1 : ρ ≤ 1)
include u0 r0 r1
theorem haA (h : ρ * (27 * κ) ≤ 27 * u) : ρ * (1 / 4) * (6 * (9 * κ + 5 * u)) ≤ 300 * u := by
  have := Rat.mul_le_mul_of_nonneg_right r1 u0
  grind
theorem haP (h : ρ * (27 * κ) ≤ 27 * u) : ρ * (1 / 2) * (6 * (9 * (2 * κ) + 5 * u)) ≤ 300 * u := by
  have := Rat.mul_le_mul_of_nonneg_right r1 u0
  grind
theorem haS (h : ρ * (11 * κ) ≤ 11 * u) : ρ * (2 * (11 * κ) + u) ≤ 100 * u := by
  have := Rat.mul_le_mul_of_nonneg_right r1 u0
  grind
end
theorem ha_math {r g b top M m x y z W M2 m2 k : Int} (C : Col r g b top M m) (C' : Col x y z W M2 m2) (hW : W = 4 * top) (hM2 : M2 = M + m + 2 * M) (hm2 : m2 = M + m + 2 * m) (k0 : -12 ≤ k) (k1 : k ≤ 12)
    (R1 : RepC (x, y, z) m2 (M2 - m2) ((hn r g b M (M - m) : Rat) / ((M - m : Int) : Rat) + (k : Rat))) (R2 : RepC (r, g, b) m (M - m) ((hn x y z M2 (M2 - m2) : Rat) / ((M2 - m2 : Int) : Rat) + -(k : Rat))) :
    (Is (hlsR (add (hueOf (sh r top) (sh g top) (sh b top)) (sh k 6)) (light (sh r top) (sh g top) (sh b top)) (div (satL (sh r top) (sh g top) (sh b top)) (ofInt 2))) x W ∧ Is (hlsG (add (hueOf (sh r top) (sh g top) (sh b top)) (sh k 6)) (light (sh r top) (sh g top) (sh b top)) (div (satL (sh r top) (sh g top) (sh b top)) (ofInt 2))) y W ∧ Is (hlsB (add (hueOf (sh r top) (sh g top) (sh b top)) (sh k 6)) (light (sh r top) (sh g top) (sh b top)) (div (satL (sh r top) (sh g top) (sh b top)) (ofInt 2))) z W) ∧
      (Is (hlsR (sub (hueOf (sh x W) (sh y W) (sh z W)) (sh k 6)) (light (sh x W) (sh y W) (sh z W)) (mul (satL (sh x W) (sh y W) (sh z W)) (ofInt 2))) r top ∧ Is (hlsG (sub (hueOf (sh x W) (sh y W) (sh z W)) (sh k 6)) (light (sh x W) (sh y W) (sh z W)) (mul (satL (sh x W) (sh y W) (sh z W)) (ofInt 2))) g top ∧ Is (hlsB (sub (hueOf (sh x W) (sh y W) (sh z W)) (sh k 6)) (light (sh x W) (sh y W) (sh z W)) (mul (satL (sh x W) (sh y W) (sh z W)) (ofInt 2))) b top) := by
  have hm0 := C.M0
  have mb := mn_b hm0.2.2.1 hm0.2.2.2.2 hm0.2.1
  have esp : M2 - m2 = 2 * (M - m) := by rw [hM2, hm2]; omega
  have esm : M2 + m2 = 4 * (M + m) := by rw [hM2, hm2]; omega
  have hmn : min (M2 + m2) (2 * W - (M2 + m2)) = 4 * min (M + m) (2 * top - (M + m)) := by rw [esm, hW, show 2 * (4 * top) - 4 * (M + m) = 4 * (2 * top - (M + m)) by omega, min4]
  have hD := six_ap k0 k1
  have hu := C.hue_ap.1
  have hu' := C'.hue_ap.1
  obtain ⟨sa, s0, s1'⟩ := C.satL_ap
  obtain ⟨sa', s0', s1''⟩ := C'.satL_ap
  obtain ⟨la, l0, l1'⟩ := C.light_ap
  obtain ⟨la', l0', l1''⟩ := C'.light_ap
  have me := C.me 11 (by decide)
  have se := C.se 27 (by decide)
  have u0 := uu0
  have kb := C.kb
  have kb' := k9 C'.kb.2
  have e1 := k9 kb.2
  have hb := C.hb
  have hb' := C'.hb
  have A := (hueH hu hb.1 hb.2 e1 hD k0 k1 (sg := 1) (.inl rfl)).1
  have P := (hueH hu' hb'.1 hb'.2 kb' hD k0 k1 (sg := 1) (.inl rfl)).2
  have Ab := (hue_bl hu hb.1 hb.2 e1 hD k0 k1 (sg := 1) (.inl rfl)).2.2.1
  have Pb := (hue_bl hu' hb'.1 hb'.2 kb' hD k0 k1 (sg := 1) (.inl rfl)).2.2.2
  have km := kb0 mb.2.1 C.d
  have km' := kb0 (a := min (M2 + m2) (2 * W - (M2 + m2))) (by rw [hmn]; omega) C'.d
  have T1 := div2_ap (p := 2) (.inr rfl) sa s0 s1' (k11 km.2)
  have T2 := mul2_ap (p := 2) (.inr rfl) sa' s0' s1'' (k11 km'.2)
  have tp := castR_pos C.d.p
  have rs1 : ((M - m : Int) : Rat) / top ≤ 1 := part_le (by omega) (by omega)
  have rs0 : 0 ≤ ((M - m : Int) : Rat) / top := part_nn (by omega) C.d.p
  have S1 := part_le (a := M - m) (by omega) mb.1
  have mt1 := part_le mb.2.1 mb.2.2
  have mt0 := part_nn mb.2.1 (show 0 < 2 * top by have := C.d.p; omega)
  rw [cast2] at mt1 mt0
  -- the told colour's numbers by the colour's own
  have qW : (W : Rat) = 4 * (top : Rat) := by rw [hW, cast4]
  have g1 : ((M2 - m2 : Int) : Rat) / ((min (M2 + m2) (2 * W - (M2 + m2)) : Int) : Rat) = ((M - m : Int) : Rat) / ((min (M + m) (2 * top - (M + m)) : Int) : Rat) / 2 := by rw [hmn, esp, cast2, cast4, dv_24]
  have g2 : ((M2 + m2 : Int) : Rat) / (2 * (W : Rat)) = ((M + m : Int) : Rat) / (2 * top) := by rw [esm, qW, cast4, dv_c2]
  have g3 : uu * (W : Rat) / ((min (M2 + m2) (2 * W - (M2 + m2)) : Int) : Rat) = uu * (top : Rat) / ((min (M + m) (2 * top - (M + m)) : Int) : Rat) := by rw [hmn, cast4, qW, dv_44]
  have g4 : uu * (W : Rat) / ((M2 - m2 : Int) : Rat) = 2 * (uu * (top : Rat) / ((M - m : Int) : Rat)) := by rw [esp, cast2, qW, dv_42]
  have g5 : ((min (M2 + m2) (2 * W - (M2 + m2)) : Int) : Rat) / (2 * (W : Rat)) = ((min (M + m) (2 * top - (M + m)) : Int) : Rat) / (2 * top) := by rw [hmn, cast4, qW, dv_c2]
  have g6 : ((M2 - m2 : Int) : Rat) / (2 * (W : Rat)) = ((M - m : Int) : Rat) / top * (1 / 4) := by rw [esp, cast2, qW, dv_8]
  rw [i2] at T1 T2
  rw [g1, g3, dv_22] at T2
  rw [g4] at P
  rw [← six_add] at A
  rw [← six_sub] at P
  have hs := haS u0 mt0 mt1 me
  obtain ⟨iA1, iA2, iA3⟩ := hls_out C' R1 Ab.1 Ab.2 T1.2.1 T1.2.2.2 l0 l1' (by rw [g2]; exact la) (by rw [g1]; exact T1.1) A u310 (by rw [g5]; exact hs) (by rw [g6]; exact haA u0 rs0 rs1 se)
  obtain ⟨iP1, iP2, iP3⟩ := hls_out C R2 Pb.1 Pb.2 T2.2.1 (sat_b T2.1.hi S1 km.2) l0' l1'' (by rw [← g2]; exact la') T2.1 P u310 hs (by rw [dv_2]; exact haP u0 rs0 rs1 se)
  exact ⟨⟨iA1, iA2, iA3⟩, iP1, iP2, iP3⟩
theorem ha_stepM {w : World} {mean : ExcName → Option Value} {mg mb : Str → Option Value} (p : Addr) (n : Nat) (r g b top rest : Int) (t1 t2 t3 tt tr : Tok) (hr : 0 ≤ r ∧ r ≤ top) (hg : 0 ≤ g ∧ g ≤ top) (hb : 0 ≤ b ∧ b ≤ top) (h0 : 0 < top) (h1 : top ≤ 4096)
    (M m : Int) (hM : max (max r g) b = M) (hm : min (min r g) b = m) : ConL 16 w mean mg mb 109 [.ref p, .int top tt, .int rest tr] [(p, in3 n r g b t1 t2 t3)] StepRet := by
  have d : Dep (4 * top) := ⟨Int.mul_pos (by decide) h0, Int.mul_le_mul_of_nonneg_left h1 (by decide)⟩
  have C : Col r g b top M m := ⟨⟨h0, Int.le_trans h1 (by decide)⟩, hr.1, hr.2, hg.1, hg.2, hb.1, hb.2, hM, hm⟩
  have hm0 := C.M0
  have hk := fm_b rest (n := 12) (by decide)
  have k1 : -12 ≤ rest.fmod 12 - 6 ∧ rest.fmod 12 - 6 ≤ 12 := ⟨by omega, by omega⟩
  have mm := mm_two (M + m) hM hm
  obtain ⟨x, y, z, et, C', tr1, tr2⟩ := turn_lem (c := (M + m + 2 * r, M + m + 2 * g, M + m + 2 * b)) d mm.1 mm.2 (by omega) (by omega) (rest.fmod 12 - 6)
  have esp : M + m + 2 * M - (M + m + 2 * m) = 2 * (M - m) := by omega
  have I := ha_math C C' rfl rfl rfl k1.1 k1.2 (tr1 _ ((Rep.c2 (M + m) esp).mp C.rep)) ((Rep.c2 (M + m) esp).mpr (tr2 _ C'.rep))
  have t4 := C.d.q
  have t4' := C'.d.q
  obtain ⟨_, _, _, z2, f2⟩ := two_ap (p := 2) (.inr rfl)
  exact step_of ⟨C'.r0, C'.r1⟩ ⟨C'.g0, C'.g1⟩ ⟨C'.b0, C'.b1⟩ C'.d.p t4'
    (ha_ok p n r g b top rest t1 t2 t3 tt tr (small40 hr.1 hr.2 t4) (small40 hg.1 hg.2 t4) (small40 hb.1 hb.2 t4) (Int.ne_of_gt h0) h0 (lt40 t4) _ _ _ _ _ _ x y z M m (max_of hM) (min_of hm) _ _ _ _ _ _ _ _ _ _ _ _ _ _ _ _ _ _ _ _ 
      (small40 C'.r0 C'.r1 t4') (small40 C'.g0 C'.g1 t4') (small40 C'.b0 C'.b1 t4') (six40 k1.1 k1.2) C'.d.p (lt40 t4') rfl rfl rfl rfl rfl rfl et (both_of mm.1 mm.2) rfl rfl rfl rfl rfl rfl C.zL rfl rfl rfl rfl rfl rfl C'.zL rfl f2 z2
      rfl rfl rfl rfl rfl rfl I.1.1 I.1.2.1 I.1.2.2 I.2.1 I.2.2.1 I.2.2.2)
theorem ha_step {w : World} {mean : ExcName → Option Value} {mg mb : Str → Option Value} : StepC w mean mg mb 109 := fun p n r g b top rest t1 t2 t3 tt tr hr hg hb h0 h1 => ha_stepM p n r g b top rest t1 t2 t3 tt tr hr hg hb h0 h1 _ _ rfl rfl
end
end
section
section
open PySem PySem.Flt PySem.Float64
noncomputable abbrev yv (R G B : Rat) : Rat := 3 / 10 * R + 59 / 100 * G + 11 / 100 * B
noncomputable abbrev iv (R G B : Rat) : Rat := 599 / 1000 * R - 2773 / 10000 * G - 3217 / 10000 * B
noncomputable abbrev qv (R G B : Rat) : Rat := 213 / 1000 * R - 5251 / 10000 * G + 3121 / 10000 * B
/-- the three of a colour -/
structure Yiq (y i q : UInt64) (R G B e : Rat) : Prop where
  y : Ap y (yv R G B) e
  i : Ap i (iv R G B) e
  q : Ap q (qv R G B) e
theorem yiq_of {r g b W : Int} (hW : Dep W) (r0 : 0 ≤ r) (r1 : r ≤ W) (g0 : 0 ≤ g) (g1 : g ≤ W) (b0 : 0 ≤ b) (b1 : b ≤ W) :
    Yiq (yiqY (sh r W) (sh g W) (sh b W)) (yiqI (sh r W) (sh g W) (sh b W)) (yiqQ (sh r W) (sh g W) (sh b W)) ((r : Rat) / W) ((g : Rat) / W) ((b : Rat) / W) (30 * uu) := by
  have u0 := uu0
  have tp := castR_pos hW.p
  have bd : ∀ a : Int, 0 ≤ a → a ≤ W → 0 ≤ (a : Rat) / W ∧ (a : Rat) / W ≤ 1 := fun a a0 a1 => ⟨le_div_of tp (by have := castR_nn a0; grind), div_le_of tp (by have := castR_le a1; grind)⟩
  have ar := (sh_ap hW r0 r1).1.wide (f := uu) (by grind)
  have ag := (sh_ap hW g0 g1).1.wide (f := uu) (by grind)
  have ab := (sh_ap hW b0 b1).1.wide (f := uu) (by grind)
  exact ⟨(yiqY_ap ar ag ab (bd r r0 r1).1 (bd r r0 r1).2 (bd g g0 g1).1 (bd g g0 g1).2 (bd b b0 b1).1 (bd b b0 b1).2).wide (f := 30 * uu) (by grind), yiqI_ap ar ag ab (bd r r0 r1).1 (bd r r0 r1).2 (bd g g0 g1).1 (bd g g0 g1).2 (bd b b0 b1).1 (bd b b0 b1).2, yiqQ_ap ar ag ab (bd r r0 r1).1 (bd r r0 r1).2 (bd g g0 g1).1 (bd g g0 g1).2 (bd b b0 b1).1 (bd b b0 b1).2⟩
theorem yiq_b {R G B : Rat} (r0 : 0 ≤ R) (r1 : R ≤ 1) (g0 : 0 ≤ G) (g1 : G ≤ 1) (b0 : 0 ≤ B) (b1 : B ≤ 1) : (0 ≤ yv R G B ∧ yv R G B ≤ 1) ∧ (-(3 / 5) ≤ iv R G B ∧ iv R G B ≤ 3 / 5) ∧ (-(3 / 5) ≤ qv R G B ∧ qv R G B ≤ 3 / 5) := by
  refine ⟨⟨?_, ?_⟩, ⟨?_, ?_⟩, ?_, ?_⟩ <;> grind
/-- back to red, green, blue -/
theorem yiq_out {y i q : UInt64} {R G B e : Rat} (h : Yiq y i q R G B e) (y0 : -4 ≤ yv R G B) (y1 : yv R G B ≤ 4) (i0 : -3 ≤ iv R G B) (i1 : iv R G B ≤ 3) (q0 : -3 ≤ qv R G B) (q1 : qv R G B ≤ 3) (e0 : 0 ≤ e) (e1 : e ≤ 200 * uu) {x1 x2 x3 W : Int} (hW : Dep W)
    (h1 : 0 ≤ x1 ∧ x1 ≤ W) (h2 : 0 ≤ x2 ∧ x2 ≤ W) (h3 : 0 ≤ x3 ∧ x3 ≤ W) (c1 : cl01 R = (x1 : Rat) / W) (c2 : cl01 G = (x2 : Rat) / W) (c3 : cl01 B = (x3 : Rat) / W) : Is (yR y i q) x1 W ∧ Is (yG y i q) x2 W ∧ Is (yB y i q) x3 W := by
  have u0 := uu0
  have us := uus
  have t1 := yR_ap h.y h.i h.q y0 y1 i0 i1 q0 q1 e0 (by grind)
  have t2 := yG_ap h.y h.i h.q y0 y1 i0 i1 q0 q1 e0 (by grind)
  have t3 := yB_ap h.y h.i h.q y0 y1 i0 i1 q0 q1 e0 (by grind)
  rw [show yv R G B + 410 / 433 * iv R G B + 270 / 433 * qv R G B = R by grind, c1] at t1
  rw [show yv R G B - 7020 / 25547 * iv R G B - 16240 / 25547 * qv R G B = G by grind, c2] at t2
  rw [show yv R G B - 480 / 433 * iv R G B + 740 / 433 * qv R G B = B by grind, c3] at t3
  exact ⟨sh_is2 hW h1.1 h1.2 t1 (by grind) (by grind), sh_is2 hW h2.1 h2.2 t2 (by grind) (by grind), sh_is2 hW h3.1 h3.2 t3 (by grind) (by grind)⟩
theorem two_ex : Ap (ofInt 2) 2 0 := by
  obtain ⟨a, b, _⟩ := two_ap (p := 2) (.inr rfl)
  rw [i2] at b
  exact ⟨a, by rw [b]; grind, by rw [b]; grind⟩
/-- half the sum; twice less one; one and some times the other -/
theorem half_ap {a b : UInt64} {A B e : Rat} (ha : Ap a A e) (hb : Ap b B e) (a0 : -1 ≤ A) (a1 : A ≤ 1) (b0 : -1 ≤ B) (b1 : B ≤ 1) (e0 : 0 ≤ e) (e1 : e ≤ 1 / 1000) : Ap (div (add a b) (ofInt 2)) ((A + B) / 2) (2 * e + 3 * uu) := by
  have u0 := uu0
  have us := uus
  have s := ap_add (g := 2 * e + uu) ha hb (by grind) (by grind) (by grind) (by grind)
  rw [show A + B = (A + B) / 2 * 2 by grind] at s
  exact ap_div 1 2 (2 * e + uu) s two_ex (by grind) (by grind) (by grind) (by grind) (by grind) (by grind) (by grind) (by grind) (by grind)
theorem less_ap {a b : UInt64} {A B e : Rat} (ha : Ap a A e) (hb : Ap b B e) (a0 : -1 ≤ A) (a1 : A ≤ 1) (b0 : -1 ≤ B) (b1 : B ≤ 1) (e0 : 0 ≤ e) (e1 : e ≤ 1 / 1000) : Ap (sub (mul (ofInt 2) a) b) (2 * A - B) (3 * e + 3 * uu) := by
  have u0 := uu0
  have us := uus
  have s := ap_mul (g := 2 * e + uu) 2 1 two_ex ha (by grind) (by grind) a0 a1 (by grind) (by grind)
  exact ap_sub s hb (by grind) (by grind) (by grind) (by grind)
theorem more_ap {a b : UInt64} {A B e : Rat} {k : Int} (k0 : -3 ≤ k) (k1 : k ≤ 3) (ha : Ap a A e) (hb : Ap b B e) (a0 : -1 ≤ A) (a1 : A ≤ 1) (b0 : -1 ≤ B) (b1 : B ≤ 1) (e0 : 0 ≤ e) (e1 : e ≤ 1 / 1000) : Ap (add a (mul (ofInt k) b)) (A + (k : Rat) * B) (4 * e + 3 * uu) ∧ -3 ≤ (k : Rat) * B ∧ (k : Rat) * B ≤ 3 := by
  have u0 := uu0
  have us := uus
  obtain ⟨f, v⟩ := ofInt_exact (i := k) (by omega)
  have x0 := castR_le k0
  have x1 := castR_le k1
  have e3 : ((3 : Int) : Rat) = 3 := rfl
  have e4 : ((-3 : Int) : Rat) = -3 := rfl
  rw [e4] at x0; rw [e3] at x1
  have hk : Ap (ofInt k) (k : Rat) 0 := ⟨f, by rw [v]; grind, by rw [v]; grind⟩
  have s := ap_mul (g := 3 * e + uu) 3 1 hk hb (by grind) (by grind) b0 b1 (by grind) (by grind)
  have m := rabs_mul (a := (k : Rat)) (b := B) (A := 3) (B := 1) (by grind) (by grind) b0 b1
  exact ⟨ap_add ha s (by grind) (by grind) (by grind) (by grind), by grind, by grind⟩
end
end
section
section
open PySem PySem.Flt PySem.Float64
theorem cl01_of {x : Rat} (h0 : 0 ≤ x) (h1 : x ≤ 1) : cl01 x = x := by unfold cl01; grind
/-- cut to the cube, in whole numbers -/
noncomputable def cut (v top : Int) : Int := if top < if 0 > v then 0 else v then top else if 0 > v then 0 else v
theorem cut_b {v top : Int} (h : 0 < top) : 0 ≤ cut v top ∧ cut v top ≤ top := by
  unfold cut; omega
theorem cut_cl {v top : Int} (h : 0 < top) : cl01 ((v : Rat) / top) = (cut v top : Rat) / top := by
  have tp := castR_pos h
  have hz : ((0 : Int) : Rat) / (top : Rat) = 0 := by rw [i0]; grind
  rcases Int.lt_or_le v 0 with a | a
  · have : cut v top = 0 := by unfold cut; omega
    rw [this, hz]
    have := castR_le (show v ≤ 0 by omega)
    rw [i0] at this
    have : (v : Rat) / top ≤ 0 := div_le_of tp (by grind)
    unfold cl01; grind
  · have n0 := castR_nn a
    have x0 : 0 ≤ (v : Rat) / top := le_div_of tp (by grind)
    rcases Int.lt_or_le top v with c | c
    · have : cut v top = top := by unfold cut; omega
      rw [this]
      have := castR_le (show top ≤ v by omega)
      have x1 : 1 ≤ (v : Rat) / top := le_div_of tp (by grind)
      have : (top : Rat) / top = 1 := by grind
      rw [this]
      unfold cl01; grind
    · have : cut v top = v := by unfold cut; omega
      rw [this]
      have := castR_le c
      exact cl01_of x0 (div_le_of tp (by grind))
section
variable {R G B O P S : Rat} (hR : 0 ≤ R ∧ R ≤ 1) (hG : 0 ≤ G ∧ G ≤ 1) (hB : 0 ≤ B ∧ B ≤ 1)
include hR hG hB
theorem yiq_bb : (-1 ≤ yv R G B ∧ yv R G B ≤ 1) ∧ (-(3 / 5) ≤ iv R G B ∧ iv R G B ≤ 3 / 5) ∧ (-(3 / 5) ≤ qv R G B ∧ qv R G B ≤ 3 / 5) := by
  have b := yiq_b hR.1 hR.2 hG.1 hG.2 hB.1 hB.2
  exact ⟨⟨Rat.le_trans (by decide +kernel) b.1.1, b.1.2⟩, b.2⟩
end
theorem w35 {x : Rat} (h : -(3 / 5) ≤ x ∧ x ≤ 3 / 5) : -1 ≤ x ∧ x ≤ 1 := ⟨Rat.le_trans (by decide +kernel) h.1, Rat.le_trans h.2 (by decide +kernel)⟩
theorem w33 {x : Rat} (h : -(3 / 5) ≤ x ∧ x ≤ 3 / 5) : -3 ≤ x ∧ x ≤ 3 := ⟨Rat.le_trans (by decide +kernel) h.1, Rat.le_trans h.2 (by decide +kernel)⟩
theorem w14 {x : Rat} (h : -1 ≤ x ∧ x ≤ 1) : -4 ≤ x ∧ x ≤ 4 := ⟨Rat.le_trans (by decide +kernel) h.1, Rat.le_trans h.2 (by decide +kernel)⟩
theorem avg_b {R O : Rat} (hR : 0 ≤ R ∧ R ≤ 1) (hO : 0 ≤ O ∧ O ≤ 1) : 0 ≤ (R + O) / 2 ∧ (R + O) / 2 ≤ 1 := by constructor <;> grind
theorem u30 : (0 : Rat) ≤ 30 * uu ∧ 30 * uu ≤ 1 / 1000 := by decide +kernel
theorem u63 : (0 : Rat) ≤ 2 * (30 * uu) + 3 * uu ∧ 2 * (30 * uu) + 3 * uu ≤ 200 * uu := by decide +kernel
theorem u93 : (0 : Rat) ≤ 3 * (30 * uu) + 3 * uu ∧ 3 * (30 * uu) + 3 * uu ≤ 200 * uu := by decide +kernel
theorem u123 : (0 : Rat) ≤ 4 * (30 * uu) + 3 * uu ∧ 4 * (30 * uu) + 3 * uu ≤ 200 * uu := by decide +kernel
theorem half_l (a b c x y z u v w : Rat) : (a * x + b * y + c * z + (a * u + b * v + c * w)) / 2 = a * ((x + u) / 2) + b * ((y + v) / 2) + c * ((z + w) / 2) := by grind
theorem half_m (a b c x y z u v w : Rat) : (a * x - b * y - c * z + (a * u - b * v - c * w)) / 2 = a * ((x + u) / 2) - b * ((y + v) / 2) - c * ((z + w) / 2) := by grind
theorem half_n (a b c x y z u v w : Rat) : (a * x - b * y + c * z + (a * u - b * v + c * w)) / 2 = a * ((x + u) / 2) - b * ((y + v) / 2) + c * ((z + w) / 2) := by grind
theorem less_l (a b c x y z u v w : Rat) : 2 * (a * ((x + u) / 2) + b * ((y + v) / 2) + c * ((z + w) / 2)) - (a * u + b * v + c * w) = a * x + b * y + c * z := by grind
theorem less_m (a b c x y z u v w : Rat) : 2 * (a * ((x + u) / 2) - b * ((y + v) / 2) - c * ((z + w) / 2)) - (a * u - b * v - c * w) = a * x - b * y - c * z := by grind
theorem less_n (a b c x y z u v w : Rat) : 2 * (a * ((x + u) / 2) - b * ((y + v) / 2) + c * ((z + w) / 2)) - (a * u - b * v + c * w) = a * x - b * y + c * z := by grind
theorem more_l (k a b c x y z u v w : Rat) : a * x + b * y + c * z + k * (a * u + b * v + c * w) = a * (x + k * u) + b * (y + k * v) + c * (z + k * w) := by grind
theorem more_m (k a b c x y z u v w : Rat) : a * x - b * y - c * z + k * (a * u - b * v - c * w) = a * (x + k * u) - b * (y + k * v) - c * (z + k * w) := by grind
theorem more_n (k a b c x y z u v w : Rat) : a * x - b * y + c * z + k * (a * u - b * v + c * w) = a * (x + k * u) - b * (y + k * v) + c * (z + k * w) := by grind
theorem add_b {x y : Rat} (hx : -1 ≤ x ∧ x ≤ 1) (h0 : -3 ≤ y) (h1 : y ≤ 3) : -4 ≤ x + y ∧ x + y ≤ 4 := by constructor <;> grind
theorem add_c {x y : Rat} (hx : -(3 / 5) ≤ x ∧ x ≤ 3 / 5) (h : -(9 / 5) ≤ y ∧ y ≤ 9 / 5) : -3 ≤ x + y ∧ x + y ≤ 3 := by constructor <;> grind
theorem mul_95 {k : Int} {x : Rat} (k0 : -3 ≤ k) (k1 : k ≤ 3) (hx : -(3 / 5) ≤ x ∧ x ≤ 3 / 5) : -(9 / 5) ≤ (k : Rat) * x ∧ (k : Rat) * x ≤ 9 / 5 := by
  have x0 := castR_le k0
  have x1 := castR_le k1
  rw [show ((-3 : Int) : Rat) = -3 from rfl] at x0
  rw [show ((3 : Int) : Rat) = 3 from rfl] at x1
  have := rabs_mul (a := (k : Rat)) (b := x) (A := 3) (B := 3 / 5) x0 x1 hx.1 hx.2
  rw [show (3 : Rat) * (3 / 5) = 9 / 5 by decide +kernel] at this
  exact this
theorem fr01 {a top : Int} (h0 : 0 < top) (ha : 0 ≤ a ∧ a ≤ top) : 0 ≤ (a : Rat) / top ∧ (a : Rat) / top ≤ 1 := by
  have tp := castR_pos h0
  exact ⟨le_div_of tp (by rw [Rat.zero_mul]; exact castR_nn ha.1), div_le_of tp (by rw [Rat.one_mul]; exact castR_le ha.2)⟩
theorem half_fr {top : Int} (a c : Int) : ((a + c : Int) : Rat) / ((2 * top : Int) : Rat) = ((a : Rat) / top + (c : Rat) / top) / 2 := by
  rw [Rat.intCast_add, Rat.intCast_mul, i2]; grind
theorem more_fr {top k : Int} (u v : Int) : ((u + k * v : Int) : Rat) / top = (u : Rat) / top + (k : Rat) * ((v : Rat) / top) := by
  rw [Rat.intCast_add, Rat.intCast_mul]; grind
theorem sum_b {a o top : Int} (h : 0 ≤ a ∧ a ≤ top) (g : 0 ≤ o ∧ o ≤ top) : 0 ≤ a + o ∧ a + o ≤ 2 * top := by omega
theorem yq_math {r g b o1 o2 o3 top k : Int} (d : Dep (2 * top)) (h0 : 0 < top) (hr : 0 ≤ r ∧ r ≤ top) (hg : 0 ≤ g ∧ g ≤ top) (hb : 0 ≤ b ∧ b ≤ top) (h1 : 0 ≤ o1 ∧ o1 ≤ top) (h2 : 0 ≤ o2 ∧ o2 ≤ top) (h3 : 0 ≤ o3 ∧ o3 ≤ top)
    (k0 : -3 ≤ k) (k1 : k ≤ 3) {Y0 I0 Q0 Y1 I1 Q1 Y2 I2 Q2 : UInt64} (a : Yiq Y0 I0 Q0 ((r : Rat) / top) ((g : Rat) / top) ((b : Rat) / top) (30 * uu)) (c : Yiq Y1 I1 Q1 ((o1 : Rat) / top) ((o2 : Rat) / top) ((o3 : Rat) / top) (30 * uu))
    (t : Yiq Y2 I2 Q2 (((r + o1 : Int) : Rat) / ((2 * top : Int) : Rat)) (((g + o2 : Int) : Rat) / ((2 * top : Int) : Rat)) (((b + o3 : Int) : Rat) / ((2 * top : Int) : Rat)) (30 * uu)) :
    (Is (yR (div (add Y0 Y1) (ofInt 2)) (div (add I0 I1) (ofInt 2)) (div (add Q0 Q1) (ofInt 2))) (r + o1) (2 * top) ∧ Is (yG (div (add Y0 Y1) (ofInt 2)) (div (add I0 I1) (ofInt 2)) (div (add Q0 Q1) (ofInt 2))) (g + o2) (2 * top) ∧ Is (yB (div (add Y0 Y1) (ofInt 2)) (div (add I0 I1) (ofInt 2)) (div (add Q0 Q1) (ofInt 2))) (b + o3) (2 * top)) ∧
    (Is (yR (sub (mul (ofInt 2) Y2) Y1) (sub (mul (ofInt 2) I2) I1) (sub (mul (ofInt 2) Q2) Q1)) r top ∧ Is (yG (sub (mul (ofInt 2) Y2) Y1) (sub (mul (ofInt 2) I2) I1) (sub (mul (ofInt 2) Q2) Q1)) g top ∧ Is (yB (sub (mul (ofInt 2) Y2) Y1) (sub (mul (ofInt 2) I2) I1) (sub (mul (ofInt 2) Q2) Q1)) b top) ∧
    (Is (yR (add Y0 (mul (ofInt k) Y1)) (add I0 (mul (ofInt k) I1)) (add Q0 (mul (ofInt k) Q1))) (cut (r + k * o1) top) top ∧ Is (yG (add Y0 (mul (ofInt k) Y1)) (add I0 (mul (ofInt k) I1)) (add Q0 (mul (ofInt k) Q1))) (cut (g + k * o2) top) top ∧ Is (yB (add Y0 (mul (ofInt k) Y1)) (add I0 (mul (ofInt k) I1)) (add Q0 (mul (ofInt k) Q1))) (cut (b + k * o3) top) top) := by
  have dt : Dep top := ⟨h0, Int.le_trans (by omega) d.q⟩
  have R := fr01 h0 hr
  have G := fr01 h0 hg
  have B := fr01 h0 hb
  have O := fr01 h0 h1
  have P := fr01 h0 h2
  have S := fr01 h0 h3
  rw [half_fr, half_fr, half_fr] at t
  have aR := avg_b R O
  have aG := avg_b G P
  have aB := avg_b B S
  obtain ⟨y0, i0', q0⟩ := yiq_bb R G B
  obtain ⟨y1, i1', q1⟩ := yiq_bb O P S
  obtain ⟨y2, i2', q2⟩ := yiq_bb aR aG aB
  have hy := half_ap a.y c.y y0.1 y0.2 y1.1 y1.2 u30.1 u30.2
  have hi := half_ap a.i c.i (w35 i0').1 (w35 i0').2 (w35 i1').1 (w35 i1').2 u30.1 u30.2
  have hq := half_ap a.q c.q (w35 q0).1 (w35 q0).2 (w35 q1).1 (w35 q1).2 u30.1 u30.2
  have ly := less_ap t.y c.y y2.1 y2.2 y1.1 y1.2 u30.1 u30.2
  have li := less_ap t.i c.i (w35 i2').1 (w35 i2').2 (w35 i1').1 (w35 i1').2 u30.1 u30.2
  have lq := less_ap t.q c.q (w35 q2).1 (w35 q2).2 (w35 q1).1 (w35 q1).2 u30.1 u30.2
  have my := more_ap k0 k1 a.y c.y y0.1 y0.2 y1.1 y1.2 u30.1 u30.2
  have mi := (more_ap k0 k1 a.i c.i (w35 i0').1 (w35 i0').2 (w35 i1').1 (w35 i1').2 u30.1 u30.2).1
  have mq := (more_ap k0 k1 a.q c.q (w35 q0).1 (w35 q0).2 (w35 q1).1 (w35 q1).2 u30.1 u30.2).1
  have by_ := add_b y0 my.2.1 my.2.2
  have bi := add_c i0' (mul_95 k0 k1 i1')
  have bq := add_c q0 (mul_95 k0 k1 q1)
  have my1 := my.1
  rw [half_l] at hy
  rw [half_m] at hi
  rw [half_n] at hq
  rw [less_l] at ly
  rw [less_m] at li
  rw [less_n] at lq
  rw [more_l] at my1 by_
  rw [more_m] at mi bi
  rw [more_n] at mq bq
  have y2' := w14 y2
  have y0' := w14 y0
  exact ⟨yiq_out ⟨hy, hi, hq⟩ y2'.1 y2'.2 (w33 i2').1 (w33 i2').2 (w33 q2).1 (w33 q2).2 u63.1 u63.2 d (sum_b hr h1) (sum_b hg h2) (sum_b hb h3) (by rw [half_fr]; exact cl01_of aR.1 aR.2) (by rw [half_fr]; exact cl01_of aG.1 aG.2) (by rw [half_fr]; exact cl01_of aB.1 aB.2),
    yiq_out ⟨ly, li, lq⟩ y0'.1 y0'.2 (w33 i0').1 (w33 i0').2 (w33 q0).1 (w33 q0).2 u93.1 u93.2 dt hr hg hb (cl01_of R.1 R.2) (cl01_of G.1 G.2) (cl01_of B.1 B.2),
    yiq_out ⟨my1, mi, mq⟩ by_.1 by_.2 bi.1 bi.2 bq.1 bq.2 u123.1 u123.2 dt (cut_b h0) (cut_b h0) (cut_b h0) (by rw [← more_fr]; exact cut_cl h0) (by rw [← more_fr]; exact cut_cl h0) (by rw [← more_fr]; exact cut_cl h0)⟩
end
end
section
open PySem PySem.W PyProof.Rows
set_option maxRecDepth 100000
section
set_option maxHeartbeats 8000000 in
theorem yq_ok {w : World} {mean : ExcName → Option Value} {mg mb : Str → Option Value} (p : Addr) (n : Nat) (r g b top rest : Int) (t1 t2 t3 tt tr : Tok) (hr : r.natAbs < 2 ^ 40) (hg : g.natAbs < 2 ^ 40) (hb : b.natAbs < 2 ^ 40) (htop : top ≠ 0) (htop0 : 0 < top) (htop1 : top < 2 ^ 40)
   (tm o1 o2 o3 d1 d2 d3 m1 m2 m3 f1 f2 f3 c1 c2 c3 W : Int) (R0 G0 B0 Y0 I0 Q0 R1 G1 B1 Y1 I1 Q1 R2 G2 B2 Y2 I2 Q2 A1 A2 A3 P1 P2 P3 C1 C2 C3 : UInt64) (h48 : (top.fdiv 8).natAbs < 2 ^ 40) (h4o1 : o1.natAbs < 2 ^ 40) (h4o2 : o2.natAbs < 2 ^ 40) (h4o3 : o3.natAbs < 2 ^ 40) (h4d1 : d1.natAbs < 2 ^ 40) (h4d2 : d2.natAbs < 2 ^ 40) (h4d3 : d3.natAbs < 2 ^ 40) (hc1 : c1.natAbs < 2 ^ 40) (hc2 : c2.natAbs < 2 ^ 40) (hc3 : c3.natAbs < 2 ^ 40) (h4tm : tm.natAbs < 2 ^ 40) (hdp0 : 0 < W) (hdp1 : W < 2 ^ 40)
   (eo1 : top.fdiv 8 * (rest.fdiv 1).fmod 9 = o1) (eo2 : top.fdiv 8 * (rest.fdiv 9).fmod 9 = o2) (eo3 : top.fdiv 8 * (rest.fdiv 81).fmod 9 = o3) (etm : (rest.fdiv 729).fmod 7 - 3 = tm) (eW : 2 * top = W) (ed1 : r + o1 = d1) (em1 : tm * o1 = m1) (ef1 : r + m1 = f1) (ec1 : (if top < (if 0 > f1 then 0 else f1) then top else if 0 > f1 then 0 else f1) = c1) (ed2 : g + o2 = d2) (em2 : tm * o2 = m2) (ef2 : g + m2 = f2) (ec2 : (if top < (if 0 > f2 then 0 else f2) then top else if 0 > f2 then 0 else f2) = c2) (ed3 : b + o3 = d3) (em3 : tm * o3 = m3) (ef3 : b + m3 = f3) (ec3 : (if top < (if 0 > f3 then 0 else f3) then top else if 0 > f3 then 0 else f3) = c3)
   (eR0 : sh r top = R0) (eG0 : sh g top = G0) (eB0 : sh b top = B0) (eY0 : yiqY R0 G0 B0 = Y0) (eI0 : yiqI R0 G0 B0 = I0) (eQ0 : yiqQ R0 G0 B0 = Q0)
   (eR1 : sh o1 top = R1) (eG1 : sh o2 top = G1) (eB1 : sh o3 top = B1) (eY1 : yiqY R1 G1 B1 = Y1) (eI1 : yiqI R1 G1 B1 = I1) (eQ1 : yiqQ R1 G1 B1 = Q1)
   (eR2 : sh d1 W = R2) (eG2 : sh d2 W = G2) (eB2 : sh d3 W = B2) (eY2 : yiqY R2 G2 B2 = Y2) (eI2 : yiqI R2 G2 B2 = I2) (eQ2 : yiqQ R2 G2 B2 = Q2)
   (hf2 : (2 : Int).natAbs < 2 ^ 1024 - 2 ^ 970) (hz2 : ¬ Float64.isZero (Float64.ofInt 2) = true) (hft : tm.natAbs < 2 ^ 1024 - 2 ^ 970)
   (eA1 : yR (Float64.div (Float64.add Y0 Y1) (Float64.ofInt 2)) (Float64.div (Float64.add I0 I1) (Float64.ofInt 2)) (Float64.div (Float64.add Q0 Q1) (Float64.ofInt 2)) = A1) (eA2 : yG (Float64.div (Float64.add Y0 Y1) (Float64.ofInt 2)) (Float64.div (Float64.add I0 I1) (Float64.ofInt 2)) (Float64.div (Float64.add Q0 Q1) (Float64.ofInt 2)) = A2) (eA3 : yB (Float64.div (Float64.add Y0 Y1) (Float64.ofInt 2)) (Float64.div (Float64.add I0 I1) (Float64.ofInt 2)) (Float64.div (Float64.add Q0 Q1) (Float64.ofInt 2)) = A3)
   (eP1 : yR (Float64.sub (Float64.mul (Float64.ofInt 2) Y2) Y1) (Float64.sub (Float64.mul (Float64.ofInt 2) I2) I1) (Float64.sub (Float64.mul (Float64.ofInt 2) Q2) Q1) = P1) (eP2 : yG (Float64.sub (Float64.mul (Float64.ofInt 2) Y2) Y1) (Float64.sub (Float64.mul (Float64.ofInt 2) I2) I1) (Float64.sub (Float64.mul (Float64.ofInt 2) Q2) Q1) = P2) (eP3 : yB (Float64.sub (Float64.mul (Float64.ofInt 2) Y2) Y1) (Float64.sub (Float64.mul (Float64.ofInt 2) I2) I1) (Float64.sub (Float64.mul (Float64.ofInt 2) Q2) Q1) = P3)
   (eC1 : yR (Float64.add Y0 (Float64.mul (Float64.ofInt tm) Y1)) (Float64.add I0 (Float64.mul (Float64.ofInt tm) I1)) (Float64.add Q0 (Float64.mul (Float64.ofInt tm) Q1)) = C1) (eC2 : yG (Float64.add Y0 (Float64.mul (Float64.ofInt tm) Y1)) (Float64.add I0 (Float64.mul (Float64.ofInt tm) I1)) (Float64.add Q0 (Float64.mul (Float64.ofInt tm) Q1)) = C2) (eC3 : yB (Float64.add Y0 (Float64.mul (Float64.ofInt tm) Y1)) (Float64.add I0 (Float64.mul (Float64.ofInt tm) I1)) (Float64.add Q0 (Float64.mul (Float64.ofInt tm) Q1)) = C3)
   (iA1 : Is A1 d1 W) (iA2 : Is A2 d2 W) (iA3 : Is A3 d3 W) (iP1 : Is P1 r top) (iP2 : Is P2 g top) (iP3 : Is P3 b top) (iC1 : Is C1 c1 top) (iC2 : Is C2 c2 top) (iC3 : Is C3 c3 top) :
   ConL 16 w mean mg mb 114 [.ref p, .int top tt, .int rest tr] [(p, in3 n r g b t1 t2 t3)] (RetS d1 d2 d3 W) := by
  k_with_none
  k_with "omega" => (with_reducible assumption)
  k_with "ktr_room" => first | exact rm1 (by with_reducible assumption) (by exact rfl) | exact rm0 hd
  k_with "ktr_units" => exact rm1 (by with_reducible assumption) (by exact rfl)
  k_with "size_fits" => exact szle (by exact rfl)
  k_with "k_room" => ktr_room
  k_with "k_ne" => (refine neN ?_; (try dsimp only); first | (with_reducible assumption) | (with_reducible exact Ne.symm (by assumption)) | (with_reducible exact Nat.ne_of_lt (by assumption)) | (with_reducible exact Nat.ne_of_gt (by assumption)) | (with_reducible exact Nat.ne_of_lt (ltAll (by assumption) (by k_dflt k_mem))) | (with_reducible exact Nat.ne_of_gt (ltAll (by assumption) (by k_dflt k_mem))) | (with_reducible exact Nat.ne_of_lt (ltAllS (by assumption) (by k_dflt k_mem))) | (with_reducible exact Nat.ne_of_gt (ltAllS (by assumption) (by k_dflt k_mem))) | (with_reducible exact Nat.ne_of_gt (ltAllSS (by assumption) (by k_dflt k_mem))) | (with_reducible exact Nat.ne_of_lt (ltAllSS (by assumption) (by k_dflt k_mem))) | (with_reducible exact Nat.ne_of_gt (ltAllSSS (by assumption) (by k_dflt k_mem))) | (with_reducible exact Nat.ne_of_lt (ltAllSSS (by assumption) (by k_dflt k_mem))) | (with_reducible exact Nat.ne_of_lt (ltVia (by assumption) (by assumption) (by k_dflt k_mem))) | (with_reducible exact Nat.ne_of_gt (ltVia (by assumption) (by assumption) (by k_dflt k_mem))) | (with_reducible exact off1 (by assumption) (by k_dflt k_mem)) | (with_reducible exact Ne.symm (off1 (by assumption) (by k_dflt k_mem))) | (with_reducible exact offI (by assumption) (by k_dflt k_mem)) | (with_reducible exact offC (by assumption) (by k_dflt k_mem)) | (with_reducible exact offD (by assumption) (by k_dflt k_mem)) | (with_reducible exact Ne.symm (offI (by assumption) (by k_dflt k_mem))) | (with_reducible exact Ne.symm (offC (by assumption) (by k_dflt k_mem))) | (with_reducible exact Ne.symm (offD (by assumption) (by k_dflt k_mem))))
  k_with "k_lt" => skip
  k_with "k_all" => (with_reducible exact neAll (by assumption))
  k_with "execs cons" => (k_here; (with_reducible show wpAny _ _ _ _ _ (Shared.mk _ _ _ (HAdd.hAdd _ _) _)); refine genTok ?_; intro tk')
  k_with "execs nil" => (k_here; (with_reducible show wpAny _ _ _ _ _ (Shared.mk _ _ _ (HAdd.hAdd _ _) _)); refine genTok ?_; intro tk')
  k_with "execs cons" => (k_here; (rename News _ _ _ _ => N9); dsimp only at N9; walk_at "execs cons")
  k_with "execs cons" => (k_here; (rename Fr _ _ _ _ => F9); dsimp only at F9; walk_at "execs cons")
  k_with "execs cons" => (k_here; (with_reducible rename (News _ _ _ (_ :: _)) => N9); (first | replace N9 := dropR0 N9 | replace N9 := dropU1 N9 | replace N9 := dropF0 N9 | replace N9 := dropF1 N9 | replace N9 := dropF2 N9 | replace N9 := dropF3 N9 | replace N9 := dropF4 N9 | replace N9 := dropF5 N9); walk_at "execs cons")
  k_with "binaryOp Add int int" => (k_here; (with_reducible refine addI (by assumption) ?_); intro t9)
  k_with "binaryOp Sub int int" => (k_here; (with_reducible refine subI (by assumption) ?_); intro t9)
  k_with "binaryOp Mod int int" => (k_here; (with_reducible refine modI (by decide) (by assumption) ?_); intro t9)
  k_with "binaryOp Mult int int" => (k_here; (with_reducible refine mulI (by assumption) (by first | exact mok (.inl (by with_reducible assumption)) | exact mok (.inr (by with_reducible assumption)) | exact mokl (by exact rfl) | mul_fits) ?_); intro t9)
  k_with "binaryOp Mult int float" => (k_here; (with_reducible refine mulIF (by assumption) (by with_unfolding_all rfl) ?_); intro t9)
  k_with "binaryOp Sub int float" => (k_here; (with_reducible refine subIF (by assumption) (by with_unfolding_all rfl) ?_); intro t9)
  k_with "CompEnd" => (k_dflt (refine compEnd_same (by assumption) (by assumption) (by assumption) (by first | lcg_src | assumption) ?_))
  k_with "FinE" => (unfold LCg.FinE; intro D' h' tk' F' N' o1'; (try simp only [List.nil_append, List.cons_append] at N'); (try dsimp only))
  k_with "CompRest" => (with_unfolding_all first | (refine LCg.CompRest.succ ?_; intro v' I' oI' C' oC' D' m' h' tk' E' hv' hC' hx' F' N' off' ne'; lcg_open hv'; (have e1' := And.left ne'; have e2' := And.left (And.right ne'); have e3' := And.right (And.right ne'))) | refine LCg.CompRest.zero ?_)
  k_with "CompSrc" => (k_here; k_dflt (refine LCg.CompSrc.ledger (by rfl) (by k_asm) (by k_asm) (by k_mem) (by first | size_fits | exact Nat.le_of_ble_eq_true rfl) ?_; intro g'; lcg_lit))
  k_with "no max" => (k_here; (with_reducible show wpAny _ _ (call (Value.builtin _) [Value.ref _]) _ _ _); k_dflt (refine max_l (by with_unfolding_all rfl) (by k_asm) (by k_asm) (by k_mem) (by with_reducible assumption) ?_); intro _ _ _ F' N'; (try dsimp only); (try k_fold))
  k_with "no min" => (k_here; (with_reducible show wpAny _ _ (call (Value.builtin _) [Value.ref _]) _ _ _); k_dflt (refine min_l (by with_unfolding_all rfl) (by k_asm) (by k_asm) (by k_mem) (by with_reducible assumption) ?_); intro _ _ _ F' N'; (try dsimp only); (try k_fold))
  k_with "k_ne" => (refine neN ?_; (try dsimp only); first | (with_reducible assumption) | (with_reducible exact Ne.symm (by assumption)) | (with_reducible exact Nat.ne_of_lt (by assumption)) | (with_reducible exact Nat.ne_of_gt (by assumption)) | (with_reducible exact Nat.ne_of_lt (ltAll (by assumption) (by k_dflt k_mem))) | (with_reducible exact Nat.ne_of_gt (ltAll (by assumption) (by k_dflt k_mem))) | (with_reducible exact Nat.ne_of_lt (ltAllS (by assumption) (by k_dflt k_mem))) | (with_reducible exact Nat.ne_of_gt (ltAllS (by assumption) (by k_dflt k_mem))) | (with_reducible exact Nat.ne_of_gt (ltAllSS (by assumption) (by k_dflt k_mem))) | (with_reducible exact Nat.ne_of_lt (ltAllSS (by assumption) (by k_dflt k_mem))) | (with_reducible exact Nat.ne_of_gt (ltAllSSS (by assumption) (by k_dflt k_mem))) | (with_reducible exact Nat.ne_of_lt (ltAllSSS (by assumption) (by k_dflt k_mem))) | (with_reducible exact Nat.ne_of_lt (ltVia (by assumption) (by assumption) (by k_dflt k_mem))) | (with_reducible exact Nat.ne_of_gt (ltVia (by assumption) (by assumption) (by k_dflt k_mem))) | (with_reducible exact neqAll (by assumption) (by k_dflt k_mem)) | (with_reducible exact Ne.symm (neqAll (by assumption) (by k_dflt k_mem))) | (with_reducible exact off1 (by assumption) (by k_dflt k_mem)) | (with_reducible exact Ne.symm (off1 (by assumption) (by k_dflt k_mem))) | (with_reducible exact offI (by assumption) (by k_dflt k_mem)) | (with_reducible exact offC (by assumption) (by k_dflt k_mem)) | (with_reducible exact offD (by assumption) (by k_dflt k_mem)) | (with_reducible exact Ne.symm (offI (by assumption) (by k_dflt k_mem))) | (with_reducible exact Ne.symm (offC (by assumption) (by k_dflt k_mem))) | (with_reducible exact Ne.symm (offD (by assumption) (by k_dflt k_mem))))
  k_with "call ref" => (k_here; k_dflt (show wpAny _ _ (call (Value.ref 68) _) _ _ _); k_dflt (refine' shares_p (by k_asm) (by k_asm) (by k_mem) (by with_reducible assumption) (by with_reducible assumption) (by with_reducible assumption) (by with_reducible assumption) (by with_reducible assumption) (by with_reducible assumption) (by with_reducible assumption) (by k_asm) (by k_asm) (by k_asm) (by first | exact rfl | assumption) (by ktr_room) (by ktr_units) _; k_whole); intro p' _ _ _ h' _ F' N' l1; (try dsimp only); (try k_fold))
  k_with "call ref" => (k_here; k_dflt (show wpAny _ _ (call (Value.ref 73) _) _ _ _); k_dflt (refine' is_w (by k_asm) (by k_asm) (by k_mem) (by k_mem) (by with_reducible assumption) (by with_reducible assumption) (by with_reducible assumption) (by with_reducible assumption) (by with_reducible assumption) (by with_reducible assumption) (by with_reducible assumption) (by with_reducible assumption) (by k_asm) (by k_asm) (by k_asm) (by first | exact rfl | assumption) (by ktr_room) (by ktr_units) _; k_whole); intro h' _ F' N'; (try dsimp only); (try k_fold))
  k_with "call ref" => (k_here; k_dflt (show wpAny _ _ (call (Value.ref 87) _) _ _ _); k_dflt (refine' seen_w (by k_asm) (by k_asm) (by k_mem) (by with_reducible assumption) (by with_reducible assumption) (by k_asm) (by k_asm) (by k_asm) (by first | exact rfl | assumption) (by ktr_room) (by ktr_units) _; k_whole); intro p' _ _ _ _ h' _ F' N' l1; (try dsimp only); (try k_fold))
  k_with "call ref" => (k_here; k_dflt (show wpAny _ _ (call (Value.ref 80) _) _ _ _); k_dflt (refine' turned_w (by k_asm) (by k_asm) (by k_mem) (by with_reducible assumption) (by with_reducible assumption) (by k_asm) (by k_asm) (by k_asm) (by first | exact rfl | assumption) (by ktr_room) (by ktr_units) _; k_whole); intro p' _ _ _ _ h' _ F' N' l1; (try dsimp only); (try k_fold))
  k_with "call ref" => (k_here; k_dflt (show wpAny _ _ (call (Value.ref 56) _) _ _ _); k_dflt (refine' hsv_k (by with_reducible assumption) (by with_reducible assumption) (by with_reducible assumption) (by with_reducible assumption) _ _ _ _ _ _ _ _ _ _ _ _ _ _ _ _ _ _ (by k_asm) (by k_asm) (by k_asm) (by k_asm) (by k_asm) (by first | exact rfl | assumption) (by ktr_room) (by ktr_units) _; k_whole); intro p' _ _ _ h' _ F' N' l1; (try dsimp only); (try k_fold))
  k_with "call ref" => (k_here; k_dflt (show wpAny _ _ (call (Value.ref 35) _) _ _ _); k_dflt (refine' hls_k (by with_reducible assumption) (by with_reducible assumption) (by with_reducible assumption) (by with_reducible assumption) _ _ _ _ _ _ _ _ _ _ _ _ _ _ _ _ _ _ (by k_asm) (by k_asm) (by k_asm) (by k_asm) (by k_asm) (by first | exact rfl | assumption) (by ktr_room) (by ktr_units) _; k_whole); intro p' _ _ _ h' _ F' N' l1; (try dsimp only); (try k_fold))
  k_with "call ref" => (k_here; k_dflt (show wpAny _ _ (call (Value.ref 21) _) _ _ _); k_dflt (refine' yiq_k (by with_reducible assumption) (by with_reducible assumption) (by with_reducible assumption) _ _ _ _ _ _ _ _ _ _ _ _ _ _ _ _ _ _ (by k_asm) (by k_asm) (by k_asm) (by k_asm) (by k_asm) (by first | exact rfl | assumption) (by ktr_room) (by ktr_units) _; k_whole); intro p' _ _ _ h' _ F' N' l1; (try dsimp only); (try k_fold))
  k_with "call ref" => (k_here; k_dflt (show wpAny _ _ (call (Value.ref 63) _) _ _ _); k_dflt (refine' hr_k (by with_reducible assumption) (by with_reducible assumption) (by with_reducible assumption) (by with_reducible assumption) _ _ _ _ _ _ _ _ _ _ _ _ _ _ _ _ _ _ (by k_asm) (by k_asm) (by k_asm) (by k_asm) (by k_asm) (by first | exact rfl | assumption) (by ktr_room) (by ktr_units) _; k_whole); intro p' _ _ _ h' _ F' N' l1; (try dsimp only); (try k_fold))
  k_with "call ref" => (k_here; k_dflt (show wpAny _ _ (call (Value.ref 42) _) _ _ _); k_dflt (refine' hlr_k (by with_reducible assumption) (by with_reducible assumption) (by with_reducible assumption) _ _ _ _ _ _ _ _ _ _ _ _ _ _ _ _ _ _ (by k_asm) (by k_asm) (by k_asm) (by k_asm) (by k_asm) (by first | exact rfl | assumption) (by ktr_room) (by ktr_units) _; k_whole); intro p' _ _ _ h' _ F' N' l1; (try dsimp only); (try k_fold))
  k_with "call ref" => (k_here; k_dflt (show wpAny _ _ (call (Value.ref 28) _) _ _ _); k_dflt (refine' yr_k (by with_reducible assumption) (by with_reducible assumption) (by with_reducible assumption) _ _ _ _ _ _ _ _ _ _ _ _ _ _ _ _ _ _ (by k_asm) (by k_asm) (by k_asm) (by k_asm) (by k_asm) (by first | exact rfl | assumption) (by ktr_room) (by ktr_units) _; k_whole); intro p' _ _ _ h' _ F' N' l1; (try dsimp only); (try k_fold))
  k_with "binaryOp Div int int" => (k_dflt (refine div_sh rfl (by first | (with_reducible assumption) | decide | omega) (by first | (with_reducible assumption) | decide | omega) (by with_reducible assumption) ?_))
  k_with "call type:zip" => (k_here; k_dflt (first | refine zip_listsW (by k_asm) (by k_asm) (by k_mem) (by k_mem) ?_ | refine zip_tupsW (by k_asm) (by k_asm) (by k_mem) (by k_mem) ?_); intro z' h' F' N' Z'; (try dsimp only); (try k_fold))
  k_with "call type:list" => (k_here; k_dflt (refine list_zipW (by rfl) (by k_asm) (by k_asm) (by assumption) ?_); intro P' T0' T1' T2' c' h' F' N' l0' l1' l2' l3' q0' q1' q2'; (try simp only [List.cons_append, List.nil_append] at N' l0' l1' l2' l3'); (try dsimp only); (try k_fold))
  k_with "eval ListComp" => (k_here; (with_reducible show wpAny _ _ (eval (Expr.ListComp _ [Comprehension.mk _ (Expr.Call _ _ _ _) _ _] _ _) _) _ _ _); k_dflt (refine listComp_zip (by k_asm) (by rfl) (by decide) (by rfl) (by decide) (by rfl) (by rfl) (by decide) ?_))
  k_with "ZSrc" => (k_here; k_dflt (refine zSrc (by rfl) (by k_asm) (by k_asm) (by assumption) (by k_mem) (by k_mem) ?_))
  k_with "ZRest" => (k_dflt (first | (refine ZRest.cons ?_; intro IT' C' oC' D' m' h' tk' E' hC' hx' hy' F' N'; (try simp only [List.cons_append, List.nil_append] at N'); (try dsimp only at hx' hy')) | refine ZRest.nil ?_))
  k_with "CompRestP" => (with_unfolding_all first | (refine LCp.CompRestP.succ ?_; intro v' hv'; lcg_open hv'; refine ⟨_, _, _, _, _, rfl, by k_mem, rfl, rfl, ?_⟩; intro I' oI' C' oC' D' m' h' tk' E' hC' hx' hy' F' N' off' ne'; (have e1' := And.left ne'; have e2' := And.left (And.right ne'); have e3' := And.right (And.right ne'))) | refine LCp.CompRestP.zero ?_)
  k_with "ZEnd" => (k_dflt (refine zEnd (by assumption) (by assumption) ?_))
  k_with "CompRest" => (k_dflt (refine rest3 (c0 := o1) (c1 := o2) (c2 := o3) (by exact hp3) (by first | lcg_src | assumption) ?_ ?_ ?_ ?_); (focus (k_dflt (intro t9 m9 I9 oI9 C9 oC9 D9 oD9 n9 h9 tk9 E9 Q9 hC9 hx9 F9 N9 off9 ne9 hq9); (have e1' := And.left ne9; have e2' := And.left (And.right ne9); have e3' := And.right (And.right ne9)); k_dflt k_steps; (k_dflt (refine hq9 _ _ _ ?_ ?_); all_goals assumption))); (focus (k_dflt (intro t9 m9 I9 oI9 C9 oC9 D9 oD9 n9 h9 tk9 E9 Q9 hC9 hx9 F9 N9 off9 ne9 hq9); (have e1' := And.left ne9; have e2' := And.left (And.right ne9); have e3' := And.right (And.right ne9)); k_dflt k_steps; (k_dflt (refine hq9 _ _ _ ?_ ?_); all_goals assumption))); (focus (k_dflt (intro t9 m9 I9 oI9 C9 oC9 D9 oD9 n9 h9 tk9 E9 Q9 hC9 hx9 F9 N9 off9 ne9 hq9); (have e1' := And.left ne9; have e2' := And.left (And.right ne9); have e3' := And.right (And.right ne9)); k_dflt k_steps; (k_dflt (refine hq9 _ _ _ ?_ ?_); all_goals assumption))); intro u9 v9 w9)
  k_with "CompRestP" => (k_here; k_dflt (show LCp.CompRestP _ _ _ _ _ _ _ (Expr.BinOp _ _ _ _) _ _ _ _ _ _ _ _ _ _ _ _); k_dflt (refine restP3 (fun a b c => a + b = c) (by exact hp3) (by k_mem) (by k_mem) (by k_mem) (by first | lcg_src | assumption) (by with_reducible assumption) (by with_reducible assumption) (by with_reducible assumption) ?_ ?_); (focus (k_dflt (intro a9 b9 c9 r9 t9 u9 m9 I9 oI9 C9 oC9 D9 oD9 n9 h9 tk9 E9 Q9 hC9 hx9 hy9 F9 N9 off9 ne9 hq9); (have e1' := And.left ne9; have e2' := And.left (And.right ne9); have e3' := And.right (And.right ne9)); k_dflt k_steps; (k_dflt (refine hq9 _ _ _ ?_ ?_); all_goals assumption))); intro u9 v9 w9)
  k_with "CompRestP" => (k_here; k_dflt (show LCp.CompRestP _ _ _ _ _ _ _ (Expr.Call _ _ _ _) _ _ _ _ _ _ _ _ _ _ _ _); k_dflt (refine restP3 (fun a b c => ∃ mm f : Int, tm * b = mm ∧ a + mm = f ∧ (if top < (if 0 > f then 0 else f) then top else if 0 > f then 0 else f) = c) (by exact hp3) (by k_mem) (by k_mem) (by k_mem) (by first | lcg_src | assumption) ⟨_, _, (by with_reducible assumption), (by with_reducible assumption), (by with_reducible assumption)⟩ ⟨_, _, (by with_reducible assumption), (by with_reducible assumption), (by with_reducible assumption)⟩ ⟨_, _, (by with_reducible assumption), (by with_reducible assumption), (by with_reducible assumption)⟩ ?_ ?_); (focus (k_dflt (intro a9 b9 c9 r9 t9 u9 m9 I9 oI9 C9 oC9 D9 oD9 n9 h9 tk9 E9 Q9 hC9 hx9 hy9 F9 N9 off9 ne9 hq9); (obtain ⟨mm9, f9, em9, ef9, ec9⟩ := r9); subst ec9; (have e1' := And.left ne9; have e2' := And.left (And.right ne9); have e3' := And.right (And.right ne9)); k_dflt k_steps; (k_dflt (refine hq9 _ _ _ ?_ ?_); all_goals assumption))); intro u9 v9 w9)
  k_with "ZRest" => (k_here; k_dflt (show ZRest _ _ _ _ _ _ _ (Expr.BinOp _ Operator.Div _ _) _ _ _ _ _ _ _ _ _); k_dflt (refine restZ3 (fun x u => Float64.div (Float64.add x u) (Float64.ofInt 2)) ?_ ?_); (focus (k_dflt (intro a9 b9 t9 u9 m9 IT9 C9 oC9 D9 oD9 n9 h9 tk9 E9 Q9 hC9 hx9 hy9 F9 N9 hq9); k_dflt k_steps; (k_dflt (refine hq9 _ _ _ ?_ ?_); all_goals assumption))); intro u9 v9 w9; (try dsimp only))
  k_with "ZRest" => (k_here; k_dflt (show ZRest _ _ _ _ _ _ _ (Expr.BinOp _ Operator.Sub _ _) _ _ _ _ _ _ _ _ _); k_dflt (refine restZ3 (fun x u => Float64.sub (Float64.mul (Float64.ofInt 2) x) u) ?_ ?_); (focus (k_dflt (intro a9 b9 t9 u9 m9 IT9 C9 oC9 D9 oD9 n9 h9 tk9 E9 Q9 hC9 hx9 hy9 F9 N9 hq9); k_dflt k_steps; (k_dflt (refine hq9 _ _ _ ?_ ?_); all_goals assumption))); intro u9 v9 w9; (try dsimp only))
  k_with "ZRest" => (k_here; k_dflt (show ZRest _ _ _ _ _ _ _ (Expr.BinOp _ Operator.Add _ _) _ _ _ _ _ _ _ _ _); k_dflt (refine restZ3 (fun x u => Float64.add x (Float64.mul (Float64.ofInt tm) u)) ?_ ?_); (focus (k_dflt (intro a9 b9 t9 u9 m9 IT9 C9 oC9 D9 oD9 n9 h9 tk9 E9 Q9 hC9 hx9 hy9 F9 N9 hq9); k_dflt k_steps; (k_dflt (refine hq9 _ _ _ ?_ ?_); all_goals assumption))); intro u9 v9 w9; (try dsimp only))
  intro dp un gd cn cs a ccd cl outer A₀ base h₀ L m s Q E B' F' X' N' T' hk hd hu hret
  have N0 := N'
  w_on
  revert X'; k_fill; intro X'
  refine wpAny_call ?_
  k_dflt (refine' code_defCG ?k1 ?k2 ?k3 ?k4 ?k5 ?kA ?kF ?kK ?k6 ?k7 ?k8 ?k9 ?kB ?kD ?_ ?c2 ?c3 ?c4; (case kA => exact rfl); (case kF => exact rfl); (case kK => assumption); (case k1 => k_asm); (case k2 => k_asm); (case k3 => k_asm); (case k4 => k_asm); (case k5 => k_asm); (case k6 => k_is); (case k7 => k_is); (case k8 => ktr_room); (case k9 => first | exact BindsTo.of_eq rfl | exact binds_K (by k_in) rfl (by k_is) rfl rfl rfl | fail "k_enter: no rule for these arguments"); (case kB => exact rfl); (case kD => decide +kernel); (case c2 => exact rfl); (case c3 => exact rfl); (case c4 => exact rfl); k_whole; intro g' L' h' tk' cells' FG' F' N' Y' B' X' T' l1 GS hL; (try k_lt l1); (have hY := CellsAre.three Y'; obtain ⟨oc0, oc1, oc2, hE', dc0, dc1, dc2⟩ := hY; subst hE'; clear Y'); (try simp only [List.cons_append, List.nil_append] at N'); (try dsimp only); (try k_lift B'); (try k_fold))
  replace F' : Fr g' L' h' (fun y => if y = Str.ofString "colour" then some (.ref p) else none) := F'
  replace dc1 : oc1.data = .cell (some (.int rest tr)) := dc1
  replace dc2 : oc2.data = .cell (some (.int top tt)) := dc2
  k_steps
  all_goals first | skip
  all_goals with_reducible refine' retS_use hret N0 GS ?zf ?zkn ?zsub ?zhq ?zhp ?zn ?zhq' ?zhp' ?za ?zb ?zc
  case zf => assumption
  case zkn => assumption
  case zsub => exact fun q hq => by rw [List.mem_singleton.mp hq]; k_mem
  case zhq => k_mem
  case zhp => k_mem
  case zn => assumption
  case zhq' => k_mem
  case zhp' => k_mem
  case za => exact fun e he => by rw [List.mem_singleton.mp he]; k_ne
  case zb => exact fun e he => by rw [List.mem_singleton.mp he]; with_reducible first | exact (And.right (And.right (And.right (And.right (And.right (And.right (And.right (And.right (And.right (by assumption)))))))))) | exact (And.right (And.right (And.right (And.right (And.right (And.right (And.right (And.right (by assumption))))))))) | exact (And.right (And.right (And.right (And.right (And.right (And.right (And.right (by assumption))))))))
  case zc => k_ne
end
end
section
set_option maxRecDepth 100000
section
open PySem PySem.W PySem.Calls PyProof.Rows PySem.Flt PySem.Float64
theorem other_b {top a : Int} (h0 : 0 < top) : 0 ≤ top.fdiv 8 * a.fmod 9 ∧ top.fdiv 8 * a.fmod 9 ≤ top := by
  have f := fm_b a (n := 9) (by decide)
  have d := Int.mul_fdiv_add_fmod top 8
  have e := fm_b top (n := 8) (by decide)
  generalize top.fdiv 8 = q at *
  generalize a.fmod 9 = x at *
  generalize top.fmod 8 = y at *
  have q0 : 0 ≤ q := by omega
  have m0 := Int.mul_nonneg q0 f.1
  have m1 := Int.mul_le_mul_of_nonneg_left (show x ≤ 8 by omega) q0
  omega
theorem tm_b {a tm : Int} (e : a.fmod 7 - 3 = tm) : -3 ≤ tm ∧ tm ≤ 3 := by
  subst e
  have hk := fm_b a (n := 7) (by decide)
  omega
theorem tm40 {tm : Int} (h : -3 ≤ tm ∧ tm ≤ 3) : tm.natAbs ≤ 3 := by omega
theorem fd8 {top : Int} (h0 : 0 < top) (h1 : top ≤ 4096) : (top.fdiv 8).natAbs < 2 ^ 40 := by
  have d := Int.mul_fdiv_add_fmod top 8
  have e := fm_b top (n := 8) (by decide)
  exact small40 (W := 4096) (by omega) (by omega) (by decide)
theorem yq_stepM {w : World} {mean : ExcName → Option Value} {mg mb : Str → Option Value} (p : Addr) (n : Nat) (r g b top rest : Int) (t1 t2 t3 tt tr : Tok) (hr : 0 ≤ r ∧ r ≤ top) (hg : 0 ≤ g ∧ g ≤ top) (hb : 0 ≤ b ∧ b ≤ top) (h0 : 0 < top) (h1 : top ≤ 4096)
    (tm o1 o2 o3 : Int) (etm : (rest.fdiv 729).fmod 7 - 3 = tm) (e1 : top.fdiv 8 * (rest.fdiv 1).fmod 9 = o1) (e2 : top.fdiv 8 * (rest.fdiv 9).fmod 9 = o2) (e3 : top.fdiv 8 * (rest.fdiv 81).fmod 9 = o3)
    (ho1 : 0 ≤ o1 ∧ o1 ≤ top) (ho2 : 0 ≤ o2 ∧ o2 ≤ top) (ho3 : 0 ≤ o3 ∧ o3 ≤ top) : ConL 16 w mean mg mb 114 [.ref p, .int top tt, .int rest tr] [(p, in3 n r g b t1 t2 t3)] StepRet := by
  have hk := tm_b etm
  have d : Dep (2 * top) := ⟨Int.mul_pos (by decide) h0, Int.le_trans (Int.mul_le_mul_of_nonneg_left h1 (by decide)) (by decide)⟩
  have dt : Dep top := ⟨h0, Int.le_trans h1 (by decide)⟩
  have ya := yiq_of dt hr.1 hr.2 hg.1 hg.2 hb.1 hb.2
  have yb := yiq_of dt ho1.1 ho1.2 ho2.1 ho2.2 ho3.1 ho3.2
  have d1 := sum_b hr ho1
  have d2 := sum_b hg ho2
  have d3 := sum_b hb ho3
  have yc := yiq_of d d1.1 d1.2 d2.1 d2.2 d3.1 d3.2
  have I := yq_math (k := tm) d h0 hr hg hb ho1 ho2 ho3 hk.1 hk.2 ya yb yc
  obtain ⟨_, _, _, f4, f5⟩ := two_ap (p := 2) (.inr rfl)
  have t4 := dt.q
  have t4' := d.q
  have c1 := cut_b (v := r + tm * o1) h0
  have c2 := cut_b (v := g + tm * o2) h0
  have c3 := cut_b (v := b + tm * o3) h0
  exact step_of d1 d2 d3 d.p t4'
    (yq_ok p n r g b top rest t1 t2 t3 tt tr (small40 hr.1 hr.2 t4) (small40 hg.1 hg.2 t4) (small40 hb.1 hb.2 t4) (Int.ne_of_gt h0) h0 (lt40 t4) tm o1 o2 o3 _ _ _ _ _ _ _ _ _ _ _ _ _ _ _ _ _ _ _ _ _ _ _ _ _ _ _ _ _ _ _ _ _ _ _ _ _ _ _ _ 
      (fd8 h0 h1) (small40 ho1.1 ho1.2 t4) (small40 ho2.1 ho2.2 t4) (small40 ho3.1 ho3.2 t4) (small40 d1.1 d1.2 t4') (small40 d2.1 d2.2 t4') (small40 d3.1 d3.2 t4')
      (small40 c1.1 c1.2 t4) (small40 c2.1 c2.2 t4) (small40 c3.1 c3.2 t4) (Nat.lt_of_le_of_lt (tm40 hk) (by decide)) d.p (lt40 t4') e1 e2 e3 etm rfl rfl rfl rfl rfl rfl rfl rfl rfl rfl rfl rfl rfl
      rfl rfl rfl rfl rfl rfl rfl rfl rfl rfl rfl rfl rfl rfl rfl rfl rfl rfl f5 f4 (fit (Nat.le_trans (tm40 hk) (by decide))) rfl rfl rfl rfl rfl rfl rfl rfl rfl
      I.1.1 I.1.2.1 I.1.2.2 I.2.1.1 I.2.1.2.1 I.2.1.2.2 I.2.2.1 I.2.2.2.1 I.2.2.2.2)
theorem yq_step {w : World} {mean : ExcName → Option Value} {mg mb : Str → Option Value} : StepC w mean mg mb 114 := fun p n r g b top rest t1 t2 t3 tt tr hr hg hb h0 h1 =>
  yq_stepM p n r g b top rest t1 t2 t3 tt tr hr hg hb h0 h1 _ _ _ _ rfl rfl rfl rfl (other_b h0) (other_b h0) (other_b h0)
end
end
section
section
open PySem PySem.W PyProof.Rows
theorem steps_ok {w : World} {mean : ExcName → Option Value} {mg mb : Str → Option Value} : Steps w mean mg mb := ⟨hh_step, hl_step, hv_step, ha_step, yq_step⟩
theorem law_all : PySem.Challenge.rw_mj0002_02.Holds := law_holds fun _ _ _ _ => steps_ok
end
end
end Mine
theorem PySem.Challenge.cw_mj0002_02_holds : PySem.Challenge.rw_mj0002_02.Holds :=
  Mine.law_all
