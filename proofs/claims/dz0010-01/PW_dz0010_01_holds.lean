import PyProof.Rows.All
import Wide.All
import OpenK.AllK
import Wide.FinOn
import PySem.Challenge.RW_dz0010_01
set_option Elab.async false
/- MyPure -/
section
open PySem
namespace Mine
def maxF (x y : UInt64) : UInt64 := if (Float64.cmp x y == some .lt) = true then y else x
def minF (x y : UInt64) : UInt64 := if (Float64.cmp y x == some .lt) = true then y else x
def modF (h : UInt64) : UInt64 := (Float64.divmod h 4607182418800017408).snd
def vF (m1 m2 hue : UInt64) : UInt64 :=
  if (Float64.cmp (Float64.divmod hue 4607182418800017408).snd 4595172819793696085 == some .lt) = true then
    Float64.add m1 (Float64.mul (Float64.mul (Float64.sub m2 m1) (Float64.divmod hue 4607182418800017408).snd) 4618441417868443648)
  else if (Float64.cmp (Float64.divmod hue 4607182418800017408).snd 4602678819172646912 == some .lt) = true then m2
  else if (Float64.cmp (Float64.divmod hue 4607182418800017408).snd 4604180019048437077 == some .lt) = true then
    Float64.add m1 (Float64.mul (Float64.mul (Float64.sub m2 m1) (Float64.sub 4604180019048437077 (Float64.divmod hue 4607182418800017408).snd)) 4618441417868443648)
  else m1
abbrev T3 := UInt64 × UInt64 × UInt64
def m2F (l s : UInt64) : UInt64 :=
  if (Float64.cmp l 4602678819172646912 == some .lt || Float64.cmp l 4602678819172646912 == some .eq) = true then Float64.mul l (Float64.add 4607182418800017408 s)
  else Float64.sub (Float64.add l s) (Float64.mul l s)
def m1F (l s : UInt64) : UInt64 := Float64.sub (Float64.mul 4611686018427387904 l) (m2F l s)
def hlsF (h l s : UInt64) : T3 :=
  if (Float64.cmp s 0 == some .eq) = true then (l, l, l) else
  (vF (m1F l s) (m2F l s) (Float64.add h 4599676419421066581), vF (m1F l s) (m2F l s) h, vF (m1F l s) (m2F l s) (Float64.sub h 4599676419421066581))
def hueF (r g b maxc rangec : UInt64) : UInt64 :=
  (Float64.divmod (Float64.div (
    if (Float64.cmp r maxc == some .eq) = true then Float64.sub (Float64.div (Float64.sub maxc b) rangec) (Float64.div (Float64.sub maxc g) rangec)
    else if (Float64.cmp g maxc == some .eq) = true then Float64.sub (Float64.add 4611686018427387904 (Float64.div (Float64.sub maxc r) rangec)) (Float64.div (Float64.sub maxc b) rangec)
    else Float64.sub (Float64.add 4616189618054758400 (Float64.div (Float64.sub maxc g) rangec)) (Float64.div (Float64.sub maxc r) rangec))
    4618441417868443648) 4607182418800017408).snd
def max3 (r g b : UInt64) : UInt64 := maxF (maxF r g) b
def min3 (r g b : UInt64) : UInt64 := minF (minF r g) b
def rgbhsvF (r g b : UInt64) : T3 :=
  if (Float64.cmp (min3 r g b) (max3 r g b) == some .eq) = true then (0, 0, max3 r g b) else
  (hueF r g b (max3 r g b) (Float64.sub (max3 r g b) (min3 r g b)), Float64.div (Float64.sub (max3 r g b) (min3 r g b)) (max3 r g b), max3 r g b)
def hlsL (maxc minc : UInt64) : UInt64 := Float64.div (Float64.add maxc minc) 4611686018427387904
def hlsS (maxc minc : UInt64) : UInt64 :=
  if (Float64.cmp (hlsL maxc minc) 4602678819172646912 == some .lt || Float64.cmp (hlsL maxc minc) 4602678819172646912 == some .eq) = true then Float64.div (Float64.sub maxc minc) (Float64.add maxc minc)
  else Float64.div (Float64.sub maxc minc) (Float64.sub (Float64.sub 4611686018427387904 maxc) minc)
def rgbhlsF (r g b : UInt64) : T3 :=
  if (Float64.cmp (min3 r g b) (max3 r g b) == some .eq) = true then (0, hlsL (max3 r g b) (min3 r g b), 0) else
  (hueF r g b (max3 r g b) (Float64.sub (max3 r g b) (min3 r g b)), hlsL (max3 r g b) (min3 r g b), hlsS (max3 r g b) (min3 r g b))
def hsvI (h : UInt64) : Int := Flt.toInt Float64.truncOf (Float64.mul h 4618441417868443648)
def hsvf (h : UInt64) : UInt64 := Float64.sub (Float64.mul h 4618441417868443648) (Float64.ofInt (hsvI h))
def hsvp (s v : UInt64) : UInt64 := Float64.mul v (Float64.sub 4607182418800017408 s)
def hsvq (h s v : UInt64) : UInt64 := Float64.mul v (Float64.sub 4607182418800017408 (Float64.mul s (hsvf h)))
def hsvt (h s v : UInt64) : UInt64 := Float64.mul v (Float64.sub 4607182418800017408 (Float64.mul s (Float64.sub 4607182418800017408 (hsvf h))))
def hsvF (h s v : UInt64) : T3 :=
  if (Float64.cmp s 0 == some .eq) = true then (v, v, v) else
  if (hsvI h).fmod 6 = 0 then (v, hsvt h s v, hsvp s v) else
  if (hsvI h).fmod 6 = 1 then (hsvq h s v, v, hsvp s v) else
  if (hsvI h).fmod 6 = 2 then (hsvp s v, v, hsvt h s v) else
  if (hsvI h).fmod 6 = 3 then (hsvp s v, hsvq h s v, v) else
  if (hsvI h).fmod 6 = 4 then (hsvt h s v, hsvp s v, v) else (v, hsvp s v, hsvq h s v)
def farI (place corner whole : Int) : Int := if whole - (place - corner).fmod whole < (place - corner).fmod whole then whole - (place - corner).fmod whole else (place - corner).fmod whole
/-- an int divided by an int -/
abbrev fr (a b : Int) : UInt64 := Float64.ofFrac (decide (a < 0) != decide (b < 0)) a.natAbs b.natAbs
def clampI (x h : Int) : Int := if h < (if 0 > x then 0 else x) then h else (if 0 > x then 0 else x)
def fallI (turn corner hues : Int) : Int := clampI (farI ((6 * turn).fmod (6 * hues)) corner (6 * hues) - hues) hues
def toldV (turn share level hues parts corner : Int) : UInt64 := fr (level * (parts * hues - share * fallI turn corner hues)) (parts * parts * hues)
/-- what hsv_to_rgb gives -/
def gV (turn share level hues parts : Int) : T3 := hsvF (fr turn hues) (fr share parts) (fr level parts)
def rV (turn share level hues parts : Int) : T3 := rgbhsvF (gV turn share level hues parts).1 (gV turn share level hues parts).2.1 (gV turn share level hues parts).2.2
def mxV (turn share level hues parts : Int) : UInt64 := max3 (gV turn share level hues parts).1 (gV turn share level hues parts).2.1 (gV turn share level hues parts).2.2
def mnV (turn share level hues parts : Int) : UInt64 := min3 (gV turn share level hues parts).1 (gV turn share level hues parts).2.1 (gV turn share level hues parts).2.2
structure Ne0 (x : Int) : Prop where
  out : x ≠ 0
/-- what the floats do in _law_by_value up to hsv_to_rgb -/
structure ValIn (turn share level hues parts : Int) : Prop where
  hf : Float64.isFinite (Float64.mul (fr turn hues) 4618441417868443648) = true
  hi : (hsvI (fr turn hues)).natAbs < 2 ^ 64
  g1 : Float64.cmp (gV turn share level hues parts).1 (toldV turn share level hues parts 0) = some .eq
  g2 : Float64.cmp (gV turn share level hues parts).2.1 (toldV turn share level hues parts (2 * hues)) = some .eq
  g3 : Float64.cmp (gV turn share level hues parts).2.2 (toldV turn share level hues parts (4 * hues)) = some .eq
/-- and behind it, where rgb_to_hsv does not raise -/
structure ValZ (turn share level hues parts : Int) : Prop where
  z1 : (Float64.cmp (mnV turn share level hues parts) (mxV turn share level hues parts) == some .eq) = false → Float64.isZero (Float64.sub (mxV turn share level hues parts) (mnV turn share level hues parts)) = false
  z2 : (Float64.cmp (mnV turn share level hues parts) (mxV turn share level hues parts) == some .eq) = false → Float64.isZero (mxV turn share level hues parts) = false
structure ValOk (turn share level hues parts : Int) : Prop where
  s0 : share * level = 0 → Float64.cmp (rV turn share level hues parts).1 0 = some .eq ∧ Float64.cmp (rV turn share level hues parts).2.1 0 = some .eq ∧ Float64.cmp (rV turn share level hues parts).2.2 (fr level parts) = some .eq
  sp : 0 < share * level → Float64.cmp (rV turn share level hues parts).1 (fr (turn.fmod hues) hues) = some .eq ∧ Float64.cmp (rV turn share level hues parts).2.1 (fr share parts) = some .eq ∧ Float64.cmp (rV turn share level hues parts).2.2 (fr level parts) = some .eq
structure ValNeg (turn share level hues parts : Int) : Prop where
  sn : Float64.cmp (rV turn share level hues parts).1 (fr ((2 * turn + hues).fmod (2 * hues)) (2 * hues)) = some .eq ∧ Float64.cmp (rV turn share level hues parts).2.1 (fr share (share - parts)) = some .eq ∧ Float64.cmp (rV turn share level hues parts).2.2 (fr (level * (parts - share)) (parts * parts)) = some .eq
/-- and where it raises -/
structure ValNo (turn share level hues parts : Int) : Prop where
  e1 : (Float64.cmp (mnV turn share level hues parts) (mxV turn share level hues parts) == some .eq) = false
  e2 : Float64.isZero (mxV turn share level hues parts) = true
def gL (turn share level hues parts : Int) : T3 := hlsF (fr turn hues) (fr level parts) (fr share parts)
def rL (turn share level hues parts : Int) : T3 := rgbhlsF (gL turn share level hues parts).1 (gL turn share level hues parts).2.1 (gL turn share level hues parts).2.2
def mxL (turn share level hues parts : Int) : UInt64 := max3 (gL turn share level hues parts).1 (gL turn share level hues parts).2.1 (gL turn share level hues parts).2.2
def mnL (turn share level hues parts : Int) : UInt64 := min3 (gL turn share level hues parts).1 (gL turn share level hues parts).2.1 (gL turn share level hues parts).2.2
def clamp2 (x h : Int) : Int := if h < (if -h > x then -h else x) then h else (if -h > x then -h else x)
def tiltI (turn corner hues : Int) : Int := clamp2 (3 * hues - 2 * farI ((6 * turn).fmod (6 * hues)) corner (6 * hues)) hues
def rnd (x : UInt64) (n : Int) : Int := Flt.toInt Float64.nearestOf (Float64.mul x (Float64.ofInt n))
def lowL (turn share level hues parts : Int) : Bool := Float64.cmp (hlsL (mxL turn share level hues parts) (mnL turn share level hues parts)) 4602678819172646912 == some .lt || Float64.cmp (hlsL (mxL turn share level hues parts) (mnL turn share level hues parts)) 4602678819172646912 == some .eq
structure LightOk (turn share level hues parts sw : Int) : Prop where
  f1 : Float64.isFinite (Float64.mul (gL turn share level hues parts).1 (Float64.ofInt (parts * parts * hues))) = true
  f2 : Float64.isFinite (Float64.mul (gL turn share level hues parts).2.1 (Float64.ofInt (parts * parts * hues))) = true
  f3 : Float64.isFinite (Float64.mul (gL turn share level hues parts).2.2 (Float64.ofInt (parts * parts * hues))) = true
  r1 : rnd (gL turn share level hues parts).1 (parts * parts * hues) = level * parts * hues + sw * tiltI turn 0 hues
  r2 : rnd (gL turn share level hues parts).2.1 (parts * parts * hues) = level * parts * hues + sw * tiltI turn (2 * hues) hues
  r3 : rnd (gL turn share level hues parts).2.2 (parts * parts * hues) = level * parts * hues + sw * tiltI turn (4 * hues) hues
  z1 : (Float64.cmp (mnL turn share level hues parts) (mxL turn share level hues parts) == some .eq) = false → Float64.isZero (Float64.sub (mxL turn share level hues parts) (mnL turn share level hues parts)) = false
  z2 : (Float64.cmp (mnL turn share level hues parts) (mxL turn share level hues parts) == some .eq) = false → lowL turn share level hues parts = true → Float64.isZero (Float64.add (mxL turn share level hues parts) (mnL turn share level hues parts)) = false
  z3 : (Float64.cmp (mnL turn share level hues parts) (mxL turn share level hues parts) == some .eq) = false → lowL turn share level hues parts = false → Float64.isZero (Float64.sub (Float64.sub 4611686018427387904 (mxL turn share level hues parts)) (mnL turn share level hues parts)) = false
  s0 : sw = 0 → Float64.cmp (rL turn share level hues parts).1 0 = some .eq ∧ Float64.cmp (rL turn share level hues parts).2.1 (fr level parts) = some .eq ∧ Float64.cmp (rL turn share level hues parts).2.2 0 = some .eq
  k1 : Float64.isFinite (Float64.mul (rL turn share level hues parts).1 (Float64.ofInt (2 * hues))) = true
  k2 : Float64.isFinite (Float64.mul (rL turn share level hues parts).2.1 (Float64.ofInt parts)) = true
  k3 : Float64.isFinite (Float64.mul (rL turn share level hues parts).2.2 (Float64.ofInt parts)) = true
  sp : 0 < sw → (rnd (rL turn share level hues parts).1 (2 * hues)).fmod (2 * hues) = (2 * turn).fmod (2 * hues) ∧ rnd (rL turn share level hues parts).2.1 parts = level ∧ rnd (rL turn share level hues parts).2.2 parts = share
  sn : sw < 0 → (rnd (rL turn share level hues parts).1 (2 * hues)).fmod (2 * hues) = (2 * turn + hues).fmod (2 * hues) ∧ rnd (rL turn share level hues parts).2.1 parts = level ∧ rnd (rL turn share level hues parts).2.2 parts = -share
end Mine
end
/- MyInt -/
section
namespace Mine
theorem fmod_unique {x W r z : Int} (h : x = r + W * z) (h0 : 0 ≤ r) (h1 : r < W) : x.fmod W = r := by
  rw [Int.fmod_eq_emod_of_nonneg _ (by (first | lia | omega)), h, Int.add_mul_emod_self_left]
  exact Int.emod_eq_of_lt h0 h1
theorem fmod_split (x : Int) {W : Int} (hW : 0 < W) : ∃ z, x = x.fmod W + W * z ∧ 0 ≤ x.fmod W ∧ x.fmod W < W := by
  refine ⟨x / W, ?_, ?_, ?_⟩
  · rw [Int.fmod_eq_emod_of_nonneg _ (by (first | lia | omega))]
    have := Int.emod_add_mul_ediv x W
    (first | lia | omega)
  · exact Int.fmod_nonneg_of_pos x hW
  · exact Int.fmod_lt_of_pos x hW
theorem place_eq (turn : Int) {hues : Int} (h : 0 < hues) : (6 * turn).fmod (6 * hues) = 6 * turn.fmod hues := by
  obtain ⟨z, hz, h0, h1⟩ := fmod_split turn h
  refine fmod_unique (z := z) ?_ (by (first | lia | omega)) (by (first | lia | omega))
  generalize turn.fmod hues = y at *
  subst hz
  rw [Int.mul_add, Int.mul_assoc]
theorem far_at {p c W r z : Int} (h : p - c = r + W * z) (r0 : 0 ≤ r) (r1 : 2 * r ≤ W) (hW : 0 < W) : farI p c W = r := by
  unfold farI
  rw [fmod_unique h r0 (by (first | lia | omega)), if_neg (by (first | lia | omega))]
theorem far_off {p c W r z : Int} (h : p - c = -r + W * z) (r0 : 0 < r) (r1 : 2 * r ≤ W) : farI p c W = r := by
  have e : (p - c).fmod W = W - r := fmod_unique (z := z - 1) (by rw [h, Int.mul_sub]; (first | lia | omega)) (by (first | lia | omega)) (by (first | lia | omega))
  unfold farI
  rw [e]
  split <;> (first | lia | omega)
theorem fall_lo {turn c h r : Int} (hf : farI ((6 * turn).fmod (6 * h)) c (6 * h) = r) (hh : 0 < h) (h1 : r ≤ h) : fallI turn c h = 0 := by
  unfold fallI clampI
  rw [hf, if_neg (by split <;> (first | lia | omega))]
  split <;> (first | lia | omega)
theorem fall_hi {turn c h r : Int} (hf : farI ((6 * turn).fmod (6 * h)) c (6 * h) = r) (hh : 0 < h) (h1 : 2 * h ≤ r) : fallI turn c h = h := by
  unfold fallI clampI
  rw [hf, if_neg (show ¬ 0 > r - h by (first | lia | omega))]
  split <;> (first | lia | omega)
theorem fall_mid {turn c h r x : Int} (hf : farI ((6 * turn).fmod (6 * h)) c (6 * h) = r) (h1 : h ≤ r) (h2 : r ≤ 2 * h) (hx : x = r - h) : fallI turn c h = x := by
  unfold fallI clampI
  rw [hf, if_neg (show ¬ 0 > r - h by (first | lia | omega)), if_neg (by (first | lia | omega)), hx]
def Six (k y h r g b : Int) : Prop :=
  (k = 0 ∧ r = 0 ∧ g = h - 6 * y ∧ b = h) ∨ (k = 1 ∧ r = 6 * y - h ∧ g = 0 ∧ b = h) ∨ (k = 2 ∧ r = h ∧ g = 0 ∧ b = 3 * h - 6 * y) ∨
  (k = 3 ∧ r = h ∧ g = 6 * y - 3 * h ∧ b = 0) ∨ (k = 4 ∧ r = 5 * h - 6 * y ∧ g = h ∧ b = 0) ∨ (k = 5 ∧ r = 0 ∧ g = h ∧ b = 6 * y - 5 * h)
/-- the falls by the sector -/
theorem six {turn y h : Int} (hp : (6 * turn).fmod (6 * h) = 6 * y) (hh : 0 < h) (y0 : 0 ≤ y) (y1 : y < h) :
    ∃ k : Int, 0 ≤ k ∧ k ≤ 5 ∧ k * h ≤ 6 * y ∧ 6 * y < (k + 1) * h ∧ Six k y h (fallI turn 0 h) (fallI turn (2 * h) h) (fallI turn (4 * h) h) := by
  by_cases c1 : 6 * y < h
  · refine ⟨0, by (first | lia | omega), by (first | lia | omega), by (first | lia | omega), by (first | lia | omega), .inl ⟨rfl, fall_lo (r := 6 * y) (far_at (z := 0) ?_ ?_ ?_ ?_) hh ?_, fall_mid (r := 2 * h - 6 * y) (far_off (z := 0) ?_ ?_ ?_) ?_ ?_ ?_, fall_hi (r := 6 * y + 2 * h) (far_at (z := -1) ?_ ?_ ?_ ?_) hh ?_⟩⟩ <;> (first | lia | omega)
  by_cases c2 : 6 * y < 2 * h
  · refine ⟨1, by (first | lia | omega), by (first | lia | omega), by (first | lia | omega), by (first | lia | omega), .inr (.inl ⟨rfl, fall_mid (r := 6 * y) (far_at (z := 0) ?_ ?_ ?_ ?_) ?_ ?_ ?_, fall_lo (r := 2 * h - 6 * y) (far_off (z := 0) ?_ ?_ ?_) hh ?_, fall_hi (r := 4 * h - 6 * y) (far_off (z := 0) ?_ ?_ ?_) hh ?_⟩)⟩ <;> (first | lia | omega)
  by_cases c3 : 6 * y < 3 * h
  · refine ⟨2, by (first | lia | omega), by (first | lia | omega), by (first | lia | omega), by (first | lia | omega), .inr (.inr (.inl ⟨rfl, fall_hi (r := 6 * y) (far_at (z := 0) ?_ ?_ ?_ ?_) hh ?_, fall_lo (r := 6 * y - 2 * h) (far_at (z := 0) ?_ ?_ ?_ ?_) hh ?_, fall_mid (r := 4 * h - 6 * y) (far_off (z := 0) ?_ ?_ ?_) ?_ ?_ ?_⟩))⟩ <;> (first | lia | omega)
  by_cases c4 : 6 * y < 4 * h
  · refine ⟨3, by (first | lia | omega), by (first | lia | omega), by (first | lia | omega), by (first | lia | omega), .inr (.inr (.inr (.inl ⟨rfl, fall_hi (r := 6 * h - 6 * y) (far_off (z := 1) ?_ ?_ ?_) hh ?_, fall_mid (r := 6 * y - 2 * h) (far_at (z := 0) ?_ ?_ ?_ ?_) ?_ ?_ ?_, fall_lo (r := 4 * h - 6 * y) (far_off (z := 0) ?_ ?_ ?_) hh ?_⟩)))⟩ <;> (first | lia | omega)
  by_cases c5 : 6 * y < 5 * h
  · refine ⟨4, by (first | lia | omega), by (first | lia | omega), by (first | lia | omega), by (first | lia | omega), .inr (.inr (.inr (.inr (.inl ⟨rfl, fall_mid (r := 6 * h - 6 * y) (far_off (z := 1) ?_ ?_ ?_) ?_ ?_ ?_, fall_hi (r := 6 * y - 2 * h) (far_at (z := 0) ?_ ?_ ?_ ?_) hh ?_, fall_lo (r := 6 * y - 4 * h) (far_at (z := 0) ?_ ?_ ?_ ?_) hh ?_⟩))))⟩ <;> (first | lia | omega)
  · refine ⟨5, by (first | lia | omega), by (first | lia | omega), by (first | lia | omega), by (first | lia | omega), .inr (.inr (.inr (.inr (.inr ⟨rfl, fall_lo (r := 6 * h - 6 * y) (far_off (z := 1) ?_ ?_ ?_) hh ?_, fall_hi (r := 8 * h - 6 * y) (far_off (z := 1) ?_ ?_ ?_) hh ?_, fall_mid (r := 6 * y - 4 * h) (far_at (z := 0) ?_ ?_ ?_ ?_) ?_ ?_ ?_⟩))))⟩ <;> (first | lia | omega)
theorem falls (turn : Int) {h : Int} (hh : 0 < h) : ∃ y, y = turn.fmod h ∧ 0 ≤ y ∧ y < h ∧ ∃ k : Int, 0 ≤ k ∧ k ≤ 5 ∧ k * h ≤ 6 * y ∧ 6 * y < (k + 1) * h ∧
    ((k = 0 ∧ fallI turn 0 h = 0 ∧ fallI turn (2 * h) h = h - 6 * y ∧ fallI turn (4 * h) h = h) ∨
     (k = 1 ∧ fallI turn 0 h = 6 * y - h ∧ fallI turn (2 * h) h = 0 ∧ fallI turn (4 * h) h = h) ∨
     (k = 2 ∧ fallI turn 0 h = h ∧ fallI turn (2 * h) h = 0 ∧ fallI turn (4 * h) h = 3 * h - 6 * y) ∨
     (k = 3 ∧ fallI turn 0 h = h ∧ fallI turn (2 * h) h = 6 * y - 3 * h ∧ fallI turn (4 * h) h = 0) ∨
     (k = 4 ∧ fallI turn 0 h = 5 * h - 6 * y ∧ fallI turn (2 * h) h = h ∧ fallI turn (4 * h) h = 0) ∨
     (k = 5 ∧ fallI turn 0 h = 0 ∧ fallI turn (2 * h) h = h ∧ fallI turn (4 * h) h = 6 * y - 5 * h)) :=
  ⟨turn.fmod h, rfl, Int.fmod_nonneg_of_pos turn hh, Int.fmod_lt_of_pos turn hh, six (place_eq turn hh) hh (Int.fmod_nonneg_of_pos turn hh) (Int.fmod_lt_of_pos turn hh)⟩
/-- the way back by the three, as the law tells it -/
def Way (h r g b t : Int) : Prop := (r = 0 → b - g = 3 * t ∨ b - g = 3 * t - 6 * h) ∧ (g = 0 → 2 * h + r - b = 3 * t ∨ 2 * h + r - b = 3 * t - 6 * h) ∧ (b = 0 → 4 * h + g - r = 3 * t ∨ 4 * h + g - r = 3 * t - 6 * h)
theorem wayP {k y h r g b : Int} (hf : Six k y h r g b) (hh : 0 < h) : Way h r g b (2 * y) := by
  rcases hf with ⟨_, rfl, rfl, rfl⟩ | ⟨_, rfl, rfl, rfl⟩ | ⟨_, rfl, rfl, rfl⟩ | ⟨_, rfl, rfl, rfl⟩ | ⟨_, rfl, rfl, rfl⟩ | ⟨_, rfl, rfl, rfl⟩ <;> refine ⟨fun e => ?_, fun e => ?_, fun e => ?_⟩ <;> (first | lia | omega)
theorem wayN {k y h r g b t : Int} (hf : Six k y h r g b) (hh : 0 < h) (hk : 6 * y < (k + 1) * h) (ht : (2 * y < h ∧ t = 2 * y + h) ∨ (h ≤ 2 * y ∧ t = 2 * y - h)) : Way h (h - r) (h - g) (h - b) t := by
  rcases hf with ⟨rfl, rfl, rfl, rfl⟩ | ⟨rfl, rfl, rfl, rfl⟩ | ⟨rfl, rfl, rfl, rfl⟩ | ⟨rfl, rfl, rfl, rfl⟩ | ⟨rfl, rfl, rfl, rfl⟩ | ⟨rfl, rfl, rfl, rfl⟩ <;> rcases ht with ⟨_, rfl⟩ | ⟨_, rfl⟩ <;> refine ⟨fun e => ?_, fun e => ?_, fun e => ?_⟩ <;> (first | lia | omega)
/-- some fall is 0, some is the whole -/
theorem six_ends {k y h r g b : Int} (hf : Six k y h r g b) : (r = 0 ∨ g = 0 ∨ b = 0) ∧ (r = h ∨ g = h ∨ b = h) := by
  rcases hf with ⟨_, rfl, rfl, rfl⟩ | ⟨_, rfl, rfl, rfl⟩ | ⟨_, rfl, rfl, rfl⟩ | ⟨_, rfl, rfl, rfl⟩ | ⟨_, rfl, rfl, rfl⟩ | ⟨_, rfl, rfl, rfl⟩
  · exact ⟨.inl rfl, .inr (.inr rfl)⟩
  · exact ⟨.inr (.inl rfl), .inr (.inr rfl)⟩
  · exact ⟨.inr (.inl rfl), .inl rfl⟩
  · exact ⟨.inr (.inr rfl), .inl rfl⟩
  · exact ⟨.inr (.inr rfl), .inr (.inl rfl)⟩
  · exact ⟨.inl rfl, .inr (.inl rfl)⟩
theorem tilt_fall (turn c : Int) {h : Int} (hh : 0 < h) : tiltI turn c h = h - 2 * fallI turn c h := by
  unfold tiltI fallI clamp2 clampI
  generalize farI ((6 * turn).fmod (6 * h)) c (6 * h) = x
  (repeat' split) <;> (first | lia | omega)
end Mine
end
/- MyFlt -/
section
open PySem PySem.Float64
set_option maxRecDepth 100000
namespace Mine
/-! floats by their value: the rounding is near, and exact where it can be -/
theorem near_exists (W D : Nat) (hD : 0 < D) : ∃ t', 2 ^ 52 * Float64.dist W (D * V t') ≤ W + 2 ^ 52 * D := by
  have h1 : D * (W / D) ≤ W := Nat.mul_div_le W D
  have h2 : W < D * (W / D) + D := by
    have := Nat.lt_mul_div_succ W hD
    rw [Nat.mul_add, Nat.mul_one] at this
    exact this
  generalize hn : W / D = n at h1 h2
  by_cases hs : n < 2 ^ 53
  · refine ⟨n, ?_⟩
    have hv : V n = n := by
      have := V_at (k := 0) (q := n) (by (first | lia | omega)) (.inr rfl)
      simpa using this
    rw [hv]
    have : Float64.dist W (D * n) ≤ D := by unfold Float64.dist; (first | lia | omega)
    have := Nat.mul_le_mul_left (2 ^ 52) this
    (first | lia | omega)
  · have hn0 : n ≠ 0 := by (first | lia | omega)
    have hl := Nat.log2_self_le hn0
    have hl2 := @Nat.lt_log2_self n
    have hl52 : 53 ≤ n.log2 := by
      have := (Nat.le_log2 hn0 (k := 53)).mpr (by (first | lia | omega))
      exact this
    obtain ⟨k, hk⟩ : ∃ k, n.log2 = k + 52 := ⟨n.log2 - 52, by (first | lia | omega)⟩
    rw [hk] at hl hl2
    have hp : 0 < 2 ^ k := Nat.two_pow_pos k
    have q1 : 2 ^ 52 ≤ n / 2 ^ k := by
      rw [Nat.le_div_iff_mul_le hp, Nat.mul_comm, ← Nat.pow_add]; exact hl
    have q2 : n / 2 ^ k < 2 ^ 53 := by
      rw [Nat.div_lt_iff_lt_mul hp, ← Nat.pow_add]
      have e : 53 + k = k + 52 + 1 := by (first | lia | omega)
      rw [e]; exact hl2
    have q3 : 2 ^ k * (n / 2 ^ k) ≤ n := Nat.mul_div_le n _
    have q4 : n < 2 ^ k * (n / 2 ^ k) + 2 ^ k := by
      have := Nat.lt_mul_div_succ n hp
      rw [Nat.mul_add, Nat.mul_one] at this
      exact this
    generalize n / 2 ^ k = q at *
    refine ⟨k * 2 ^ 52 + q, ?_⟩
    rw [V_at (by (first | lia | omega)) (.inl q1), Nat.mul_comm q]
    generalize 2 ^ k = P at *
    have a1 : D * (P * q) ≤ D * n := Nat.mul_le_mul_left D q3
    have a2 : D * (n + 1) ≤ D * (P * q + P) := Nat.mul_le_mul_left D (by (first | lia | omega))
    rw [Nat.mul_add, Nat.mul_one, Nat.mul_add] at a2
    have a3 : Float64.dist W (D * (P * q)) ≤ D * P := by unfold Float64.dist; (first | lia | omega)
    have a4 : D * (P * 2 ^ 52) ≤ D * (P * q) := Nat.mul_le_mul_left D (Nat.mul_le_mul_left P q1)
    have a5 : 2 ^ 52 * Float64.dist W (D * (P * q)) ≤ 2 ^ 52 * (D * P) := Nat.mul_le_mul_left _ a3
    have a6 : 2 ^ 52 * (D * P) = D * (P * 2 ^ 52) := by ac_rfl
    (first | lia | omega)
theorem rep_exists {q k : Nat} (hq : q < 2 ^ 53) : ∃ t', V t' = q * 2 ^ k := by
  by_cases h0 : q = 0
  · exact ⟨0, by rw [h0, V_zero]; simp⟩
  have hl := Nat.log2_self_le h0
  have hl2 := @Nat.lt_log2_self q
  have hlog : q.log2 ≤ 52 := by
    have : q.log2 < 53 := (Nat.log2_lt h0).mpr hq
    (first | lia | omega)
  obtain ⟨j, hj⟩ : ∃ j, q.log2 + j = 52 := ⟨52 - q.log2, by (first | lia | omega)⟩
  have g1 : 2 ^ 52 ≤ q * 2 ^ j := by
    rw [← hj, Nat.pow_add]; exact Nat.mul_le_mul_right _ hl
  have g2 : q * 2 ^ j < 2 ^ 53 := by
    have e : 53 = (q.log2 + 1) + j := by (first | lia | omega)
    rw [e, Nat.pow_add]; exact Nat.mul_lt_mul_of_pos_right hl2 (Nat.two_pow_pos j)
  by_cases hkj : j ≤ k
  · refine ⟨(k - j) * 2 ^ 52 + q * 2 ^ j, ?_⟩
    rw [V_at (Nat.le_of_lt g2) (.inl g1), Nat.mul_assoc, ← Nat.pow_add]
    congr 2; (first | lia | omega)
  · have g3 : q * 2 ^ k ≤ q * 2 ^ j := Nat.mul_le_mul_left q (Nat.pow_le_pow_right (by decide) (by (first | lia | omega)))
    refine ⟨q * 2 ^ k, ?_⟩
    have := V_at (k := 0) (q := q * 2 ^ k) (by (first | lia | omega)) (.inr rfl)
    simpa using this
/-- what a rounded result is -/
theorem right_near {r : UInt64} {neg : Bool} {W D : Nat} (h : Right r neg W D) (hD : 0 < D) (hW : W ≤ D * 2 ^ 1200) :
    ∃ m e v, decode r = .fin neg m e ∧ Float64.val r = sgn neg v ∧ 2 ^ 52 * Float64.dist W (D * v) ≤ W + 2 ^ 52 * D ∧ (∀ t', W = D * V t' → v = V t') := by
  obtain ⟨t, rfl, hle, hov, hn⟩ := h
  have hlt : t < infMag := by
    refine Nat.lt_of_le_of_ne hle fun e => ?_
    have := hov.mp e
    have e1 : (2 : Nat) ^ 2045 = 2 ^ 845 * 2 ^ 1200 := by rw [← Nat.pow_add]
    rw [e1] at this
    have hK : 0 < (2 : Nat) ^ 1200 := Nat.two_pow_pos _
    have hJ : 4 ≤ (2 : Nat) ^ 845 := Nat.pow_le_pow_right (n := 2) (by decide) (show 2 ≤ 845 by decide)
    generalize (2 : Nat) ^ 1200 = K at *
    generalize (2 : Nat) ^ 845 = J at *
    have a1 : 4 * K ≤ J * K := Nat.mul_le_mul_right K hJ
    have a2 : 4 * K ≤ (2 ^ 54 - 1) * (J * K) := by (first | lia | omega)
    have a3 : D * (4 * K) ≤ D * ((2 ^ 54 - 1) * (J * K)) := Nat.mul_le_mul_left D a2
    have a4 : D * (4 * K) = 4 * (D * K) := by ac_rfl
    have a5 : 0 < D * K := Nat.mul_pos hD hK
    (first | lia | omega)
  obtain ⟨m, e, hd, hv⟩ := decode_pack neg hlt
  refine ⟨m, e, V t, hd, val_pack neg hlt, ?_, fun t' ht' => ?_⟩
  · obtain ⟨t', ht'⟩ := near_exists W D hD
    have := (hn hlt t').1
    have := Nat.mul_le_mul_left (2 ^ 52) this
    (first | lia | omega)
  · have := (hn hlt t').1
    rw [← ht'] at this
    have z : Float64.dist W W = 0 := by unfold Float64.dist; (first | lia | omega)
    rw [z] at this
    have : W = D * V t := by unfold Float64.dist at this; (first | lia | omega)
    rw [ht'] at this
    exact (Nat.eq_of_mul_eq_mul_left hD this).symm
end Mine
end
/- MyFlt2 -/
section
open PySem PySem.Float64
set_option maxRecDepth 100000
namespace Mine
def SCI : Int := 2 ^ 1074
def SC : Rat := (SCI : Rat)
theorem SCI_pos : 0 < SCI := by unfold SCI; exact Int.pow_pos (by decide)
theorem SC_pos : 0 < SC := by
  have := (Rat.intCast_lt_intCast (a := 0) (b := SCI)).mpr SCI_pos
  simpa [SC] using this
theorem SCI_nat : SCI = ((2 ^ 1074 : Nat) : Int) := by unfold SCI; simp
/-- x is a finite float of value q -/
structure Is (x : UInt64) (q : Rat) : Prop where
  fin : ∃ a m e, decode x = .fin a m e
  val : (Float64.val x : Rat) = q * SC
def Rep (q : Rat) : Prop := ∃ (n : Int) (k : Nat), n.natAbs < 2 ^ 53 ∧ k ≤ 1074 ∧ q * ((2 ^ k : Nat) : Int) = n
theorem Is.uniq {x : UInt64} {p q : Rat} (h : Is x p) (h' : Is x q) : p = q := by
  have e := h.val.symm.trans h'.val
  have s := SC_pos
  have hz : (p - q) * SC = 0 := by grind
  rcases Rat.mul_eq_zero.mp hz with h | h
  · grind
  · grind
theorem rat_cancel {a b c : Rat} (hc : 0 < c) (h : a * c ≤ b * c) : a ≤ b := by
  rcases (Rat.le_total : a ≤ b ∨ b ≤ a) with h' | h'
  · exact h'
  · have := Rat.mul_le_mul_of_nonneg_right h' (Rat.le_of_lt hc)
    have e : a * c = b * c := Rat.le_antisymm h this
    have hz : (a - b) * c = 0 := by grind
    rcases Rat.mul_eq_zero.mp hz with h | h
    · grind
    · grind
theorem rat_sub_mul (a b c : Rat) : (a - b) * c = a * c - b * c := by grind
theorem dist_sgn (neg : Bool) (W X : Nat) : sgn neg X - sgn neg W ≤ (Float64.dist W X : Int) ∧ sgn neg W - sgn neg X ≤ (Float64.dist W X : Int) := by
  unfold sgn Float64.dist
  cases neg <;> simp <;> (first | lia | omega)
theorem sgn_abs_le (neg : Bool) (W : Nat) : sgn neg W ≤ (W : Int) ∧ -(W : Int) ≤ sgn neg W ∧ ((W : Int) = sgn neg W ∨ (W : Int) = -sgn neg W) := by
  unfold sgn; cases neg <;> simp <;> (first | lia | omega)
theorem right_is {r : UInt64} {neg : Bool} {W D : Nat} (h : Right r neg W D) (hD : 0 < D) {E : Rat} (hE : E * SC * ((D : Int) : Rat) = ((sgn neg W : Int) : Rat)) (b1 : -((2 ^ 100 : Int) : Rat) ≤ E) (b2 : E ≤ ((2 ^ 100 : Int) : Rat)) :
    ∃ e, Is r e ∧ (∀ B : Rat, -B ≤ E → E ≤ B → e - E ≤ B / 4503599627370496 + 1 / SC ∧ E - e ≤ B / 4503599627370496 + 1 / SC) ∧ (Rep E → e = E) := by
  have hs := SC_pos
  have hDr : (0 : Rat) < ((D : Int) : Rat) := by
    have := (Rat.intCast_lt_intCast (a := 0) (b := (D : Int))).mpr (by (first | lia | omega))
    simpa using this
  have hX : (0 : Rat) < SC * ((D : Int) : Rat) := Rat.mul_pos hs hDr
  have hWr : ((W : Int) : Rat) = E * SC * ((D : Int) : Rat) ∨ ((W : Int) : Rat) = -(E * SC * ((D : Int) : Rat)) := by
    rcases (sgn_abs_le neg W).2.2 with e | e
    · left; rw [hE, ← e]
    · right; rw [hE, e, Rat.intCast_neg]
  have hWB : ∀ B : Rat, -B ≤ E → E ≤ B → ((W : Int) : Rat) ≤ B * (SC * ((D : Int) : Rat)) := by
    intro B h1 h2
    have a1 := Rat.mul_le_mul_of_nonneg_right h2 (Rat.le_of_lt hX)
    have a2 := Rat.mul_le_mul_of_nonneg_right h1 (Rat.le_of_lt hX)
    rcases hWr with e | e <;> grind
  have hW : W ≤ D * 2 ^ 1200 := by
    have a := hWB _ b1 b2
    have e : ((2 ^ 100 : Int) : Rat) * (SC * ((D : Int) : Rat)) = ((2 ^ 100 * (SCI * (D : Int)) : Int) : Rat) := by
      rw [Rat.intCast_mul, Rat.intCast_mul]; rfl
    rw [e] at a
    have b := Rat.intCast_le_intCast.mp a
    have c : (2 : Int) ^ 100 * (SCI * (D : Int)) = ((2 ^ 100 * (2 ^ 1074 * D) : Nat) : Int) := by
      rw [SCI_nat]; generalize (2 ^ 1074 : Nat) = K; simp only [Int.natCast_mul]; rfl
    rw [c] at b
    have b' : W ≤ 2 ^ 100 * (2 ^ 1074 * D) := Int.ofNat_le.mp b
    refine Nat.le_trans b' ?_
    have d : 2 ^ 100 * (2 ^ 1074 * D) = D * 2 ^ 1174 := by
      rw [show (2 : Nat) ^ 1174 = 2 ^ 100 * 2 ^ 1074 from by rw [← Nat.pow_add]]
      generalize (2 : Nat) ^ 1074 = K
      ac_rfl
    rw [d]
    exact Nat.mul_le_mul_left D (Nat.pow_le_pow_right (by decide) (by decide))
  obtain ⟨m, e, v, hd, hv, hn, hx⟩ := right_near h hD hW
  have hi : 1 / SC * SC = 1 := by grind
  have hval : ((sgn neg v : Int) : Rat) = ((sgn neg v : Int) : Rat) * (1 / SC) * SC := by grind
  refine ⟨((sgn neg v : Int) : Rat) * (1 / SC), ⟨⟨_, _, _, hd⟩, by rw [hv]; exact hval⟩, ?_, ?_⟩
  · intro B h1 h2
    have hB := hWB B h1 h2
    have ds := dist_sgn neg W (D * v)
    have hsg : sgn neg (D * v) = sgn neg v * (D : Int) := by rw [Nat.mul_comm, sgn_mul]
    rw [hsg] at ds
    have hn' : 4503599627370496 * (Float64.dist W (D * v) : Int) ≤ (W : Int) + 4503599627370496 * (D : Int) := by
      simp only [Nat.reducePow] at hn; (first | lia | omega)
    have k1 : 4503599627370496 * (sgn neg v * (D : Int) - sgn neg W) ≤ (W : Int) + 4503599627370496 * (D : Int) := by (first | lia | omega)
    have k2 : 4503599627370496 * (sgn neg W - sgn neg v * (D : Int)) ≤ (W : Int) + 4503599627370496 * (D : Int) := by (first | lia | omega)
    have k1' := Rat.intCast_le_intCast.mpr k1
    have k2' := Rat.intCast_le_intCast.mpr k2
    simp only [Rat.intCast_mul, Rat.intCast_sub, Rat.intCast_add] at k1' k2'
    rw [← hE] at k1' k2'
    have c0 : (((4503599627370496 : Int)) : Rat) = 4503599627370496 := rfl
    rw [c0] at k1' k2'
    generalize ((sgn neg v : Int) : Rat) = y at *
    generalize ((D : Int) : Rat) = d at *
    generalize ((W : Int) : Rat) = wq at *
    have m1 : y * (1 / SC) * (SC * d) = y * d := by
      have : y * (1 / SC) * (SC * d) = y * d * (1 / SC * SC) := by grind
      rw [this, hi, Rat.mul_one]
    have m2 : 1 / SC * (SC * d) = d := by
      have : 1 / SC * (SC * d) = d * (1 / SC * SC) := by grind
      rw [this, hi, Rat.mul_one]
    constructor
    · refine rat_cancel hX ?_
      have l : (y * (1 / SC) - E) * (SC * d) = y * d - E * SC * d := by rw [rat_sub_mul, m1]; grind
      have rr : (B / 4503599627370496 + 1 / SC) * (SC * d) = B * (SC * d) / 4503599627370496 + d := by rw [Rat.add_mul, m2]; grind
      rw [l, rr]; grind
    · refine rat_cancel hX ?_
      have l : (E - y * (1 / SC)) * (SC * d) = E * SC * d - y * d := by rw [rat_sub_mul, m1]; grind
      have rr : (B / 4503599627370496 + 1 / SC) * (SC * d) = B * (SC * d) / 4503599627370496 + d := by rw [Rat.add_mul, m2]; grind
      rw [l, rr]; grind
  · rintro ⟨n, k, hn1, hk, hnk⟩
    have z : sgn neg W * ((2 ^ k : Nat) : Int) = n * (SCI * (D : Int)) := by
      refine Rat.intCast_inj.mp ?_
      rw [Rat.intCast_mul, ← hE, Rat.intCast_mul, Rat.intCast_mul, ← hnk]
      show _ = _ * (SC * _)
      grind
    obtain ⟨t', ht'⟩ := rep_exists (k := 1074 - k) hn1
    have zn : W * 2 ^ k = n.natAbs * (2 ^ 1074 * D) := by
      have := congrArg Int.natAbs z
      rw [Int.natAbs_mul, sgn_natAbs, Int.natAbs_mul, SCI_nat, ← Int.natCast_mul, Int.natAbs_natCast, Int.natAbs_natCast] at this
      exact this
    have hWD : W = D * V t' := by
      rw [ht']
      have e : (2 : Nat) ^ 1074 = 2 ^ (1074 - k) * 2 ^ k := by rw [← Nat.pow_add]; congr 1; (first | lia | omega)
      rw [e] at zn
      have : W * 2 ^ k = (D * (n.natAbs * 2 ^ (1074 - k))) * 2 ^ k := by rw [zn]; ac_rfl
      exact Nat.eq_of_mul_eq_mul_right (Nat.two_pow_pos k) this
    have hvv := hx t' hWD
    have : sgn neg W = sgn neg v * (D : Int) := by rw [hWD, ← hvv, Nat.mul_comm, sgn_mul]
    rw [this, Rat.intCast_mul] at hE
    generalize ((sgn neg v : Int) : Rat) = y at *
    generalize ((D : Int) : Rat) = d at *
    have q : (y * (1 / SC) - E) * (SC * d) = 0 := by
      have : y * (1 / SC) * (SC * d) = y * d * (1 / SC * SC) := by grind
      rw [rat_sub_mul, this, hi]; grind
    rcases Rat.mul_eq_zero.mp q with h | h
    · grind
    · grind
end Mine
end
/- MyFlt3 -/
section
open PySem PySem.Float64
set_option maxRecDepth 100000
namespace Mine
/-- r is the rounding of E -/
structure Rnd (r : UInt64) (E : Rat) (e : Rat) : Prop where
  is : Is r e
  near : ∀ B : Rat, -B ≤ E → E ≤ B → e - E ≤ B / 4503599627370496 + 1 / SC ∧ E - e ≤ B / 4503599627370496 + 1 / SC
  rep : Rep E → e = E
theorem sgn_decide (z : Int) : sgn (decide (z < 0)) z.natAbs = z := by unfold sgn; split <;> simp_all <;> (first | lia | omega)
theorem inv_SC_pos : 0 < 1 / SC := by
  have h := SC_pos
  have hi : 1 / SC * SC = 1 := by grind
  rcases (Rat.le_total : (1 / SC) ≤ 0 ∨ 0 ≤ (1 / SC)) with h' | h'
  · have := Rat.mul_le_mul_of_nonneg_right h' (Rat.le_of_lt h)
    grind
  · grind
theorem is_zero (b : Bool) : Is (zero b) 0 := by
  obtain ⟨m, e, hd, _⟩ := decode_pack b (t := 0) (by decide)
  have hv : Float64.val (zero b) = sgn b (V 0) := val_pack b (by decide)
  refine ⟨⟨_, _, _, hd⟩, ?_⟩
  rw [hv, V_zero]
  have : sgn b 0 = 0 := by cases b <;> rfl
  rw [this]
  show (0 : Rat) = 0 * SC
  grind
theorem rnd_zero (b : Bool) {E : Rat} (h : E = 0) : Rnd (zero b) E 0 := by
  subst h
  have := inv_SC_pos
  exact ⟨is_zero b, fun B h1 h2 => by constructor <;> grind, fun _ => rfl⟩
theorem val_add {x y : UInt64} {p q : Rat} (hx : Is x p) (hy : Is y q) : ((Float64.val x + Float64.val y : Int) : Rat) = (p + q) * SC := by
  rw [Rat.intCast_add, hx.val, hy.val]; grind
theorem val_sub {x y : UInt64} {p q : Rat} (hx : Is x p) (hy : Is y q) : ((Float64.val x - Float64.val y : Int) : Rat) = (p - q) * SC := by
  rw [Rat.intCast_sub, hx.val, hy.val]; grind
theorem zero_of_SC {q : Rat} (h : q * SC = 0) : q = 0 := by
  have := SC_pos
  rcases Rat.mul_eq_zero.mp h with h | h
  · exact h
  · grind
theorem one_cast : (((1 : Nat) : Int) : Rat) = 1 := rfl
theorem add_is {x y : UInt64} {p q : Rat} (hx : Is x p) (hy : Is y q) (b1 : -((2 ^ 100 : Int) : Rat) ≤ p + q) (b2 : p + q ≤ ((2 ^ 100 : Int) : Rat)) : ∃ e, Rnd (add x y) (p + q) e := by
  obtain ⟨a, m, e, hdx⟩ := hx.fin
  obtain ⟨b, k, f, hdy⟩ := hy.fin
  have hr := add_right hdx hdy
  have hv := val_add hx hy
  by_cases h0 : Float64.val x + Float64.val y = 0
  · rw [hr.1 h0]
    rw [h0] at hv
    exact ⟨0, rnd_zero _ (zero_of_SC (by rw [← hv]; rfl))⟩
  · obtain ⟨e, h1, h2, h3⟩ := right_is (hr.2 h0) (by decide) (E := p + q) (by rw [sgn_decide, hv, one_cast, Rat.mul_one]) b1 b2
    exact ⟨e, h1, h2, h3⟩
theorem sub_is {x y : UInt64} {p q : Rat} (hx : Is x p) (hy : Is y q) (b1 : -((2 ^ 100 : Int) : Rat) ≤ p - q) (b2 : p - q ≤ ((2 ^ 100 : Int) : Rat)) : ∃ e, Rnd (sub x y) (p - q) e := by
  obtain ⟨a, m, e, hdx⟩ := hx.fin
  obtain ⟨b, k, f, hdy⟩ := hy.fin
  have hr := sub_right hdx hdy
  have hv := val_sub hx hy
  by_cases h0 : Float64.val x - Float64.val y = 0
  · rw [hr.1 h0]
    rw [h0] at hv
    exact ⟨0, rnd_zero _ (zero_of_SC (by rw [← hv]; rfl))⟩
  · obtain ⟨e, h1, h2, h3⟩ := right_is (hr.2 h0) (by decide) (E := p - q) (by rw [sgn_decide, hv, one_cast, Rat.mul_one]) b1 b2
    exact ⟨e, h1, h2, h3⟩
theorem sgn_mul_sgn (a b : Bool) (m n : Nat) : sgn (a != b) (m * n) = sgn a m * sgn b n := by
  unfold sgn; cases a <;> cases b <;> simp [Int.neg_mul, Int.mul_neg]
theorem val_sgn {x : UInt64} {a : Bool} {m : Nat} {e : Int} (h : decode x = .fin a m e) : Float64.val x = sgn a (Float64.val x).natAbs := by
  rw [val_natAbs h, val_eq h]
theorem SC_nat : (((2 ^ 1074 : Nat) : Int) : Rat) = SC := by unfold SC; rw [SCI_nat]
theorem mul_is {x y : UInt64} {p q : Rat} (hx : Is x p) (hy : Is y q) (b1 : -((2 ^ 100 : Int) : Rat) ≤ p * q) (b2 : p * q ≤ ((2 ^ 100 : Int) : Rat)) : ∃ e, Rnd (mul x y) (p * q) e := by
  obtain ⟨a, m, e, hdx⟩ := hx.fin
  obtain ⟨b, k, f, hdy⟩ := hy.fin
  have hr := mul_right hdx hdy
  obtain ⟨e, h1, h2, h3⟩ := right_is hr (Nat.two_pow_pos _) (E := p * q) (by
    rw [sgn_mul_sgn, ← val_sgn hdx, ← val_sgn hdy, Rat.intCast_mul, hx.val, hy.val, SC_nat]; grind) b1 b2
  exact ⟨e, h1, h2, h3⟩
theorem div_is {x y : UInt64} {p q : Rat} (hx : Is x p) (hy : Is y q) (hq : q ≠ 0) (b1 : -((2 ^ 100 : Int) : Rat) ≤ p / q) (b2 : p / q ≤ ((2 ^ 100 : Int) : Rat)) : ∃ e, Rnd (div x y) (p / q) e := by
  obtain ⟨a, m, e, hdx⟩ := hx.fin
  obtain ⟨b, k, f, hdy⟩ := hy.fin
  have hv0 : Float64.val y ≠ 0 := by
    intro h
    have := hy.val
    rw [h] at this
    exact hq (zero_of_SC this.symm)
  have hk : k ≠ 0 := by
    rintro rfl
    apply hv0
    rw [val_eq hdy]; simp [sgn]
  have hr := div_right hdx hdy hk
  have hpq : p / q * q = p := by grind
  obtain ⟨e, h1, h2, h3⟩ := right_is hr (by (first | lia | omega)) (E := p / q) (by
    have hs : ((sgn (a != b) ((Float64.val x).natAbs * 2 ^ 1074) : Int) : Rat) = ((sgn (a != b) (Float64.val x).natAbs : Int) : Rat) * SC := by
      rw [sgn_mul, Rat.intCast_mul, SC_nat]
    rw [hs]
    have hxs := hx.val
    have hys := hy.val
    rw [val_sgn hdx] at hxs
    rw [val_sgn hdy] at hys
    generalize (Float64.val x).natAbs = nx at *
    generalize (Float64.val y).natAbs = ny at *
    unfold sgn at *
    generalize p / q = E at *
    cases a <;> cases b <;> simp at * <;> grind) b1 b2
  exact ⟨e, h1, h2, h3⟩
end Mine
end
/- MyFlt4 -/
section
open PySem PySem.Float64
set_option maxRecDepth 100000
namespace Mine
theorem fr_is {a b : Int} (hb : b ≠ 0) (b1 : -((2 ^ 100 : Int) : Rat) ≤ (a : Rat) / (b : Rat)) (b2 : (a : Rat) / (b : Rat) ≤ ((2 ^ 100 : Int) : Rat)) : ∃ e, Rnd (fr a b) ((a : Rat) / (b : Rat)) e := by
  have hbr : (b : Rat) ≠ 0 := fun h => hb (Rat.intCast_inj.mp (h.trans rfl))
  have hr : Right (fr a b) (decide (a < 0) != decide (b < 0)) (a.natAbs * 2 ^ 1074) b.natAbs :=
    ofFrac_right (by (first | lia | omega)) (by rfl) (by (first | lia | omega))
  have hE : (a : Rat) / (b : Rat) * (b : Rat) = a := by grind
  obtain ⟨e, h1, h2, h3⟩ := right_is hr (by (first | lia | omega)) (E := (a : Rat) / (b : Rat)) (by
    have hs : ((sgn (decide (a < 0) != decide (b < 0)) (a.natAbs * 2 ^ 1074) : Int) : Rat) = ((sgn (decide (a < 0) != decide (b < 0)) a.natAbs : Int) : Rat) * SC := by
      rw [sgn_mul, Rat.intCast_mul, SC_nat]
    rw [hs]
    have ha := sgn_decide a
    have hb' := sgn_decide b
    have ha2 : ((sgn (decide (a < 0)) a.natAbs : Int) : Rat) = a := by rw [ha]
    have hb2 : ((sgn (decide (b < 0)) b.natAbs : Int) : Rat) = b := by rw [hb']
    rw [← ha2, ← hb2] at hE
    rw [← ha2, ← hb2]
    generalize a.natAbs = nx at *
    generalize b.natAbs = ny at *
    generalize ((sgn (decide (a < 0)) nx : Int) : Rat) / ((sgn (decide (b < 0)) ny : Int) : Rat) = E at *
    clear ha hb' ha2 hb2
    unfold sgn at *
    generalize decide (a < 0) = u at *
    generalize decide (b < 0) = v at *
    cases u <;> cases v <;> simp at * <;> grind) b1 b2
  exact ⟨e, h1, h2, h3⟩
theorem is_lit {x : UInt64} {a : Bool} {m k : Nat} (hd : decode x = .fin a m (-(k : Int))) (hk : k ≤ 1074) {q : Rat} (hq : q * ((2 ^ k : Nat) : Int) = ((sgn a m : Int) : Rat)) : Is x q := by
  refine ⟨⟨_, _, _, hd⟩, ?_⟩
  rw [val_eq hd, sgn_mul, Rat.intCast_mul, ← hq]
  have e : (-(k : Int) + 1074).toNat = 1074 - k := by (first | lia | omega)
  rw [e, ← SC_nat]
  have e2 : (2 : Nat) ^ 1074 = 2 ^ k * 2 ^ (1074 - k) := by rw [← Nat.pow_add]; congr 1; (first | lia | omega)
  rw [e2, Int.natCast_mul, Rat.intCast_mul]
  grind
theorem is_0 : Is 0 0 := is_zero false
theorem is_1 : Is 4607182418800017408 1 := is_lit (k := 52) (a := false) (m := 4503599627370496) (by unfold decode; rfl) (by decide) (by decide +kernel)
theorem is_2 : Is 4611686018427387904 2 := is_lit (k := 51) (a := false) (m := 4503599627370496) (by unfold decode; rfl) (by decide) (by decide +kernel)
theorem is_4 : Is 4616189618054758400 4 := is_lit (k := 50) (a := false) (m := 4503599627370496) (by unfold decode; rfl) (by decide) (by decide +kernel)
theorem is_6 : Is 4618441417868443648 6 := is_lit (k := 50) (a := false) (m := 6755399441055744) (by unfold decode; rfl) (by decide) (by decide +kernel)
theorem is_half : Is 4602678819172646912 (1 / 2) := is_lit (k := 53) (a := false) (m := 4503599627370496) (by unfold decode; rfl) (by decide) (by decide +kernel)
theorem is_third : Is 4599676419421066581 (6004799503160661 / 18014398509481984) := is_lit (k := 54) (a := false) (m := 6004799503160661) (by unfold decode; rfl) (by decide) (by decide +kernel)
theorem is_sixth : Is 4595172819793696085 (6004799503160661 / 36028797018963968) := is_lit (k := 55) (a := false) (m := 6004799503160661) (by unfold decode; rfl) (by decide) (by decide +kernel)
theorem is_twothird : Is 4604180019048437077 (6004799503160661 / 9007199254740992) := is_lit (k := 53) (a := false) (m := 6004799503160661) (by unfold decode; rfl) (by decide) (by decide +kernel)
theorem val_lt {x y : UInt64} {p q : Rat} (hx : Is x p) (hy : Is y q) : Float64.val x < Float64.val y ↔ p < q := by
  have hs := SC_pos
  rw [← Rat.intCast_lt_intCast, hx.val, hy.val]
  exact Rat.mul_lt_mul_right hs
theorem val_eq_iff {x y : UInt64} {p q : Rat} (hx : Is x p) (hy : Is y q) : Float64.val x = Float64.val y ↔ p = q := by
  constructor
  · intro h
    have : p * SC = q * SC := by rw [← hx.val, ← hy.val, h]
    have hz : (p - q) * SC = 0 := by grind
    have := zero_of_SC hz
    grind
  · intro h
    refine Rat.intCast_inj.mp ?_
    rw [hx.val, hy.val, h]
theorem cmp_lt {x y : UInt64} {p q : Rat} (hx : Is x p) (hy : Is y q) : (Float64.cmp x y == some .lt) = true ↔ p < q := by
  obtain ⟨_, _, _, hdx⟩ := hx.fin
  obtain ⟨_, _, _, hdy⟩ := hy.fin
  rw [cmp_right hdx hdy, ← val_lt hx hy]
  rcases Int.lt_trichotomy (Float64.val x) (Float64.val y) with h | h | h
  · rw [Int.compare_eq_lt.mpr h]; simp [h]
  · rw [h]; simp
  · rw [Int.compare_eq_gt.mpr h]; simp; (first | lia | omega)
theorem cmp_eq {x y : UInt64} {p q : Rat} (hx : Is x p) (hy : Is y q) : Float64.cmp x y = some .eq ↔ p = q := by
  obtain ⟨_, _, _, hdx⟩ := hx.fin
  obtain ⟨_, _, _, hdy⟩ := hy.fin
  rw [cmp_right hdx hdy, ← val_eq_iff hx hy]
  simp
theorem cmp_eqb {x y : UInt64} {p q : Rat} (hx : Is x p) (hy : Is y q) : (Float64.cmp x y == some .eq) = true ↔ p = q := by
  rw [← cmp_eq hx hy]; simp
theorem isZero_iff {x : UInt64} {p : Rat} (hx : Is x p) : Float64.isZero x = true ↔ p = 0 := by
  obtain ⟨a, m, e, hd⟩ := hx.fin
  have h1 : Float64.isZero x = true ↔ m = 0 := by
    unfold Float64.isZero; rw [hd]; cases m <;> simp
  rw [h1]
  have hv := hx.val
  rw [val_eq hd] at hv
  constructor
  · rintro rfl
    have : sgn a (0 * 2 ^ (e + 1074).toNat) = 0 := by rw [Nat.zero_mul]; cases a <;> rfl
    rw [this] at hv
    exact zero_of_SC hv.symm
  · rintro rfl
    have h0 : (sgn a (m * 2 ^ (e + 1074).toNat) : Int) = 0 := by
      refine Rat.intCast_inj.mp ?_
      rw [hv]; show 0 * SC = 0; grind
    have := congrArg Int.natAbs h0
    rw [sgn_natAbs] at this
    rcases Nat.mul_eq_zero.mp this with h | h
    · exact h
    · exact absurd h (Nat.ne_of_gt (Nat.two_pow_pos _))
theorem isFinite_of {x : UInt64} {p : Rat} (hx : Is x p) : Float64.isFinite x = true := by
  obtain ⟨a, m, e, hd⟩ := hx.fin
  unfold Float64.isFinite; rw [hd]
theorem rep_of {q : Rat} {n : Int} {k : Nat} (hn : n.natAbs < 2 ^ 53) (hk : k ≤ 1074) (h : q * ((2 ^ k : Nat) : Int) = n) : Rep q := ⟨n, k, hn, hk, h⟩
end Mine
end
/- MyFlt5 -/
section
open PySem PySem.Float64
set_option maxRecDepth 100000
namespace Mine
theorem V_inj {t t' : Nat} (h : V t = V t') : t = t' := by
  rcases Nat.lt_trichotomy t t' with h' | h' | h'
  · have := V_lt h'; omega
  · exact h'
  · have := V_lt h'; omega
theorem mid_absurd {X M a b c : Nat} (hM : 0 < M) (h1 : a < b) (h2 : b < c) (he : Float64.dist X (M * a) = Float64.dist X (M * c)) (hn : Float64.dist X (M * a) ≤ Float64.dist X (M * b)) : False := by
  have a1 : M * a < M * b := Nat.mul_lt_mul_of_pos_left h1 hM
  have a2 : M * b < M * c := Nat.mul_lt_mul_of_pos_left h2 hM
  unfold Float64.dist at *
  omega
theorem near_uniq {W D W' D' t t' : Nat} (hD : 0 < D) (hD' : 0 < D') (hW : W * D' = W' * D)
    (h : ∀ t'', Float64.dist W (D * V t) ≤ Float64.dist W (D * V t'') ∧ (V t'' ≠ V t → Float64.dist W (D * V t) = Float64.dist W (D * V t'') → t % 2 = 0))
    (h' : ∀ t'', Float64.dist W' (D' * V t') ≤ Float64.dist W' (D' * V t'') ∧ (V t'' ≠ V t' → Float64.dist W' (D' * V t') = Float64.dist W' (D' * V t'') → t' % 2 = 0)) : t = t' := by
  have sc : ∀ u, Float64.dist (D' * W) (D' * D * V u) = D' * Float64.dist W (D * V u) := fun u => by rw [Nat.mul_assoc, dist_mul]
  have sc' : ∀ u, Float64.dist (D' * W) (D' * D * V u) = D * Float64.dist W' (D' * V u) := fun u => by
    rw [Nat.mul_comm D' W, hW, Nat.mul_comm W' D, Nat.mul_comm D' D, Nat.mul_assoc, dist_mul]
  have e1 : Float64.dist (D' * W) (D' * D * V t) ≤ Float64.dist (D' * W) (D' * D * V t') := by rw [sc, sc]; exact Nat.mul_le_mul_left _ (h t').1
  have e2 : Float64.dist (D' * W) (D' * D * V t') ≤ Float64.dist (D' * W) (D' * D * V t) := by rw [sc', sc']; exact Nat.mul_le_mul_left _ (h' t).1
  have e := Nat.le_antisymm e1 e2
  by_cases hv : V t = V t'
  · exact V_inj hv
  · exfalso
    have p1 : t % 2 = 0 := (h t').2 (Ne.symm hv) (by rw [sc, sc] at e; exact Nat.eq_of_mul_eq_mul_left hD' e)
    have p2 : t' % 2 = 0 := (h' t).2 hv (by rw [sc', sc'] at e; exact (Nat.eq_of_mul_eq_mul_left hD e).symm)
    have hM : 0 < D' * D := Nat.mul_pos hD' hD
    rcases Nat.lt_trichotomy t t' with hlt | rfl | hlt
    · have b1 : V t < V (t + 1) := V_succ t
      have b2 : V (t + 1) < V t' := V_lt (by omega)
      exact mid_absurd hM b1 b2 e (by rw [sc, sc]; exact Nat.mul_le_mul_left _ (h (t + 1)).1)
    · exact hv rfl
    · have b1 : V t' < V (t' + 1) := V_succ t'
      have b2 : V (t' + 1) < V t := V_lt (by omega)
      exact mid_absurd hM b1 b2 e.symm (by rw [sc', sc']; exact Nat.mul_le_mul_left _ (h' (t' + 1)).1)
theorem right_uniq {r r' : UInt64} {neg : Bool} {W D W' D' : Nat} (h : Right r neg W D) (h' : Right r' neg W' D') (hD : 0 < D) (hD' : 0 < D') (hW : W * D' = W' * D) : r = r' := by
  obtain ⟨t, rfl, hle, hov, hn⟩ := h
  obtain ⟨t', rfl, hle', hov', hn'⟩ := h'
  congr 1
  have hiff : t = infMag ↔ t' = infMag := by
    rw [hov, hov']
    generalize (2 ^ 54 - 1) * 2 ^ 2045 = C
    constructor
    · intro q
      have := Nat.mul_le_mul_left D' q
      have e1 : D' * (2 * W) = 2 * (W * D') := by ac_rfl
      rw [e1, hW] at this
      have e2 : D' * (D * C) = D * (D' * C) := by ac_rfl
      have e3 : 2 * (W' * D) = D * (2 * W') := by ac_rfl
      rw [e2, e3] at this
      exact Nat.le_of_mul_le_mul_left this hD
    · intro q
      have := Nat.mul_le_mul_left D q
      have e1 : D * (2 * W') = 2 * (W' * D) := by ac_rfl
      rw [e1, ← hW] at this
      have e2 : D * (D' * C) = D' * (D * C) := by ac_rfl
      have e3 : 2 * (W * D') = D' * (2 * W) := by ac_rfl
      rw [e2, e3] at this
      exact Nat.le_of_mul_le_mul_left this hD'
  by_cases hi : t = infMag
  · rw [hi, hiff.mp hi]
  · exact near_uniq hD hD' hW (hn (Nat.lt_of_le_of_ne hle hi)) (hn' (Nat.lt_of_le_of_ne hle' fun e => hi (hiff.mpr e)))
end Mine
end
/- MyFlt6 -/
section
open PySem PySem.Float64
set_option maxRecDepth 100000
namespace Mine
def TINY : Rat := 1 / ((2 ^ 200 : Int) : Rat)
theorem inv_SC_le : 1 / SC ≤ TINY := by
  have hs := SC_pos
  have hi : 1 / SC * SC = 1 := by grind
  have h1 : ((2 ^ 200 : Int) : Rat) ≤ SC := by
    unfold SC SCI
    refine Rat.intCast_le_intCast.mpr ?_
    exact_mod_cast (Nat.pow_le_pow_right (n := 2) (by decide) (by decide) : 2 ^ 200 ≤ 2 ^ 1074)
  have ht : TINY * ((2 ^ 200 : Int) : Rat) = 1 := by decide +kernel
  have h0 : (0 : Rat) ≤ TINY := by decide +kernel
  refine rat_cancel hs ?_
  rw [hi]
  have := Rat.mul_le_mul_of_nonneg_left h1 h0
  grind
theorem ofBin_is {a : Bool} {r : Nat} {k : Nat} (hr : r < 2 ^ 53) (hk : k ≤ 1074) : ∃ f, Is (ofBin a r (-(k : Int))) f ∧ f * ((2 ^ k : Nat) : Int) = ((sgn a r : Int) : Rat) := by
  have hR : Right (ofBin a r (-(k : Int))) a (r * 2 ^ (-(k : Int) + 1074).toNat) 1 := by
    unfold ofBin
    refine ofFrac_right (shift_pos _ _ _ (by decide)) ?_ (by decide)
    have := shift_one r (-(k : Int)) 1074 (by (first | lia | omega))
    rw [Nat.mul_one]
    exact this
  have e : (-(k : Int) + 1074).toNat = 1074 - k := by (first | lia | omega)
  rw [e] at hR
  have hp : (0 : Rat) < (((2 ^ k : Nat) : Int) : Rat) := by
    have := (Rat.intCast_lt_intCast (a := 0) (b := ((2 ^ k : Nat) : Int))).mpr (by have := Nat.two_pow_pos k; (first | lia | omega))
    simpa using this
  generalize hF : ((sgn a r : Int) : Rat) / (((2 ^ k : Nat) : Int) : Rat) = f
  have hf : f * (((2 ^ k : Nat) : Int) : Rat) = ((sgn a r : Int) : Rat) := by rw [← hF]; grind
  have hp1 : (1 : Rat) ≤ (((2 ^ k : Nat) : Int) : Rat) := by
    have := (Rat.intCast_le_intCast (a := 1) (b := ((2 ^ k : Nat) : Int))).mpr (by have := Nat.two_pow_pos k; (first | lia | omega))
    simpa using this
  have hb : -((2 ^ 100 : Int) : Rat) ≤ f ∧ f ≤ ((2 ^ 100 : Int) : Rat) := by
    have s := sgn_abs_le a r
    have i1 := Rat.intCast_le_intCast.mpr (show sgn a r ≤ (2 ^ 53 : Int) by (first | lia | omega))
    have i2 := Rat.intCast_le_intCast.mpr (show -(2 ^ 53 : Int) ≤ sgn a r by (first | lia | omega))
    have c1 : (((2 ^ 53 : Int)) : Rat) ≤ ((2 ^ 100 : Int) : Rat) := by decide +kernel
    have c2 : (((-(2 ^ 53) : Int)) : Rat) = -((2 ^ 53 : Int) : Rat) := by decide +kernel
    have c0 : (0 : Rat) ≤ ((2 ^ 100 : Int) : Rat) := by decide +kernel
    have m1 := Rat.mul_le_mul_of_nonneg_left hp1 c0
    rw [c2] at i2
    rw [← hf] at i1 i2
    generalize ((2 ^ 100 : Int) : Rat) = C at *
    generalize (((2 ^ 53 : Int)) : Rat) = c at *
    constructor
    · refine rat_cancel hp ?_
      grind
    · refine rat_cancel hp ?_
      grind
  obtain ⟨e', h1, _, h3⟩ := right_is hR (by decide) (E := f) (by
    rw [one_cast, Rat.mul_one, sgn_mul, Rat.intCast_mul, ← hf, ← SC_nat]
    have e2 : (2 : Nat) ^ 1074 = 2 ^ k * 2 ^ (1074 - k) := by rw [← Nat.pow_add]; congr 1; (first | lia | omega)
    rw [e2, Int.natCast_mul, Rat.intCast_mul]
    grind) hb.1 hb.2
  have := h3 ⟨sgn a r, k, by rw [sgn_natAbs]; exact hr, hk, hf⟩
  subst this
  exact ⟨e', h1, hf⟩
theorem decode_m {x : UInt64} {a : Bool} {m : Nat} {e : Int} (h : decode x = .fin a m e) : m < 2 ^ 53 := by
  unfold decode at h
  simp only at h
  split at h
  · split at h <;> cases h
  · split at h
    · cases h; (first | lia | omega)
    · cases h; (first | lia | omega)
end Mine
end
/- MyFlt7 -/
section
open PySem PySem.Float64
set_option maxRecDepth 100000
namespace Mine
theorem decode_one : decode 4607182418800017408 = .fin false 4503599627370496 (-52) := by unfold decode; rfl
theorem pow_cast_pos (k : Nat) : (0 : Rat) < (((2 ^ k : Nat) : Int) : Rat) := by
  have := (Rat.intCast_lt_intCast (a := 0) (b := ((2 ^ k : Nat) : Int))).mpr (by have := Nat.two_pow_pos k; (first | lia | omega))
  simpa using this
theorem rat_lt_cancel {a b c : Rat} (hc : 0 < c) (h : a * c < b * c) : a < b := by
  rcases (Rat.le_total : a ≤ b ∨ b ≤ a) with h' | h'
  · rcases Rat.le_iff_lt_or_eq.mp h' with q | q
    · exact q
    · subst q; grind
  · have := Rat.mul_le_mul_of_nonneg_right h' (Rat.le_of_lt hc)
    grind
theorem rat_eq_cancel {a b c : Rat} (hc : 0 < c) (h : a * c = b * c) : a = b := by
  have hz : (a - b) * c = 0 := by grind
  rcases Rat.mul_eq_zero.mp hz with h | h
  · grind
  · grind
theorem fmod_core {x : UInt64} {p : Rat} (hx : Is x p) : ∃ (a : Bool) (P k : Nat), k ≤ 1074 ∧ p * ((2 ^ k : Nat) : Int) = ((sgn a P : Int) : Rat) ∧ fmod x 4607182418800017408 = ofBin a (P % 2 ^ k) (-(k : Int)) ∧ P % 2 ^ k < 2 ^ 53 := by
  obtain ⟨a, m, e, hd⟩ := hx.fin
  have hm := decode_m hd
  have he := decode_ge hd
  have hf : fmod x 4607182418800017408 = ofBin a ((sgn false (m * 2 ^ (e - min e (-52)).toNat)).toNat % (sgn false (4503599627370496 * 2 ^ (-52 - min e (-52)).toNat)).toNat) (min e (-52)) := by
    unfold fmod
    rw [hd, decode_one]
    rfl
  have hs : ∀ n : Nat, (sgn false n).toNat = n := fun n => by simp [sgn]
  rw [hs, hs] at hf
  obtain ⟨k, hk⟩ : ∃ k : Nat, min e (-52) = -(k : Int) := ⟨(-(min e (-52))).toNat, by (first | lia | omega)⟩
  have hk1 : k ≤ 1074 := by (first | lia | omega)
  have hk2 : 52 ≤ k := by (first | lia | omega)
  rw [hk] at hf
  have hQ : 4503599627370496 * 2 ^ (-52 - -(k : Int)).toNat = 2 ^ k := by
    rw [show (4503599627370496 : Nat) = 2 ^ 52 from rfl, ← Nat.pow_add]; congr 1; (first | lia | omega)
  rw [hQ] at hf
  refine ⟨a, m * 2 ^ (e - -(k : Int)).toNat, k, hk1, ?_, hf, ?_⟩
  · have hv := hx.val
    rw [val_eq hd] at hv
    have e1 : m * 2 ^ (e + 1074).toNat = m * 2 ^ (e - -(k : Int)).toNat * 2 ^ (1074 - k) := by
      rw [Nat.mul_assoc, ← Nat.pow_add]; congr 2; (first | lia | omega)
    rw [e1, sgn_mul, Rat.intCast_mul, ← SC_nat] at hv
    have e2 : (2 : Nat) ^ 1074 = 2 ^ k * 2 ^ (1074 - k) := by rw [← Nat.pow_add]; congr 1; (first | lia | omega)
    rw [e2, Int.natCast_mul, Rat.intCast_mul] at hv
    refine rat_eq_cancel (pow_cast_pos (1074 - k)) ?_
    grind
  · by_cases h : e ≤ -52
    · have e0 : (e - -(k : Int)).toNat = 0 := by (first | lia | omega)
      rw [e0]
      have := Nat.mod_le (m * 2 ^ 0) (2 ^ k)
      (first | lia | omega)
    · have : k = 52 := by (first | lia | omega)
      subst this
      have := Nat.mod_lt (m * 2 ^ (e - -((52 : Nat) : Int)).toNat) (show 0 < 2 ^ 52 by decide)
      (first | lia | omega)
theorem sgn_bounds {a : Bool} {P y r K : Nat} (hdm : P = y + r) (hlt : r < K) : (0 ≤ sgn a P → 0 ≤ sgn a r ∧ sgn a r < (K : Int)) ∧ (sgn a P ≤ 0 → sgn a r ≤ 0 ∧ -(K : Int) < sgn a r) := by
  unfold sgn
  cases a <;> simp only [Bool.false_eq_true, if_false, if_true] <;> (first | lia | omega)
theorem fmod_is {x : UInt64} {p : Rat} (hx : Is x p) : ∃ (f : Rat) (z : Int), Is (fmod x 4607182418800017408) f ∧ p - f = z ∧ (0 ≤ p → 0 ≤ f ∧ f < 1) ∧ (p ≤ 0 → f ≤ 0 ∧ -1 < f) := by
  obtain ⟨a, P, k, hk, hp, hf, hr⟩ := fmod_core hx
  obtain ⟨f, hfi, hfk⟩ := ofBin_is (a := a) hr hk
  have hpos := pow_cast_pos k
  have hdm : P = 2 ^ k * (P / 2 ^ k) + P % 2 ^ k := (Nat.div_add_mod P (2 ^ k)).symm
  have hlt : P % 2 ^ k < 2 ^ k := Nat.mod_lt _ (Nat.two_pow_pos k)
  generalize P / 2 ^ k = z at *
  generalize P % 2 ^ k = r at *
  have hz : ((sgn a P : Int) : Rat) = ((sgn a z : Int) : Rat) * (((2 ^ k : Nat) : Int) : Rat) + ((sgn a r : Int) : Rat) := by
    rw [← Rat.intCast_mul, ← Rat.intCast_add]
    congr 1
    rw [hdm]
    generalize (2 : Nat) ^ k = K
    unfold sgn
    cases a <;> simp <;> (try rw [Int.mul_comm]) <;> (try grind)
  refine ⟨f, sgn a z, by rw [hf]; exact hfi, ?_, ?_, ?_⟩
  · refine rat_eq_cancel hpos ?_
    rw [rat_sub_mul, hp, hfk, hz]; grind
  · intro h0
    have h1 : 0 ≤ sgn a P := by
      refine Rat.intCast_le_intCast.mp ?_
      rw [← hp]; exact Rat.mul_nonneg h0 (Rat.le_of_lt hpos)
    have h2 : 0 ≤ sgn a r ∧ sgn a r < ((2 ^ k : Nat) : Int) := (sgn_bounds hdm hlt).1 h1
    have q1 := Rat.intCast_le_intCast.mpr h2.1
    have q2 := Rat.intCast_lt_intCast.mpr h2.2
    rw [← hfk] at q1 q2
    exact ⟨rat_cancel hpos (by have : (((0 : Int)) : Rat) = 0 := rfl; grind), rat_lt_cancel hpos (by grind)⟩
  · intro h0
    have h1 : sgn a P ≤ 0 := by
      refine Rat.intCast_le_intCast.mp ?_
      rw [← hp]
      have := Rat.mul_le_mul_of_nonneg_right h0 (Rat.le_of_lt hpos)
      have : (((0 : Int)) : Rat) = 0 := rfl
      grind
    have h2 : sgn a r ≤ 0 ∧ -((2 ^ k : Nat) : Int) < sgn a r := (sgn_bounds hdm hlt).2 h1
    have q1 := Rat.intCast_le_intCast.mpr h2.1
    have q2 := Rat.intCast_lt_intCast.mpr h2.2
    rw [Rat.intCast_neg] at q2
    rw [← hfk] at q1 q2
    exact ⟨rat_cancel hpos (by have : (((0 : Int)) : Rat) = 0 := rfl; grind), rat_lt_cancel hpos (by grind)⟩
end Mine
end
/- MyFlt8 -/
section
open PySem PySem.Float64
set_option maxRecDepth 100000
namespace Mine
theorem modF_eq (x : UInt64) : modF x = if Float64.isZero (fmod x 4607182418800017408) = true then zero false
    else if (Float64.cmp (fmod x 4607182418800017408) (zero false) == some .lt) = true then add (fmod x 4607182418800017408) 4607182418800017408 else fmod x 4607182418800017408 := by
  have c1 : copysign (zero false) 4607182418800017408 = zero false := by decide +kernel
  have c2 : lt 4607182418800017408 (zero false) = false := by decide +kernel
  unfold modF divmod
  simp only
  generalize fmod x 4607182418800017408 = m
  rw [c2]
  by_cases h : Float64.isZero m = true
  · rw [if_pos h, if_pos h, c1]
  · rw [if_neg h, if_neg h]
    unfold lt
    cases hc : (Float64.cmp m (zero false) == some .lt) <;> simp
theorem rep_sub_int {p : Rat} : True := trivial
theorem modF_is {x : UInt64} {p : Rat} (hx : Is x p) : ∃ (u : Rat) (z : Int), Is (modF x) u ∧ 0 ≤ p - z ∧ p - z < 1 ∧ (Rep (p - z) → u = p - z) ∧ u - (p - z) ≤ 1 / 2251799813685248 ∧ (p - z) - u ≤ 1 / 2251799813685248 := by
  obtain ⟨f, z, hf, hz, hp, hn⟩ := fmod_is hx
  have hm := modF_eq x
  have i0 := isZero_iff hf
  have i1 := cmp_lt hf (is_zero false)
  by_cases h0 : f = 0
  · rw [if_pos (i0.mpr h0)] at hm
    refine ⟨0, z, by rw [hm]; exact is_zero false, ?_, ?_, ?_, ?_, ?_⟩ <;> grind
  · rw [if_neg (fun h => h0 (i0.mp h))] at hm
    by_cases h1 : f < 0
    · rw [if_pos (i1.mpr h1)] at hm
      have hle : p ≤ 0 := by
        rcases (Rat.le_total : p ≤ 0 ∨ 0 ≤ p) with h | h
        · exact h
        · have := hp h; grind
      have hb := hn hle
      have c1 : (1 : Rat) ≤ ((2 ^ 100 : Int) : Rat) := by decide +kernel
      obtain ⟨e, hr⟩ := add_is hf is_1 (by grind) (by grind)
      have hz1 : ((z - 1 : Int) : Rat) = (z : Rat) - 1 := by rw [Rat.intCast_sub]; rfl
      have hE : p - ((z - 1 : Int) : Rat) = f + 1 := by rw [hz1]; grind
      have nr := hr.near 1 (by grind) (by grind)
      have ti := inv_SC_le
      have tt : TINY ≤ 1 / 4503599627370496 := by decide +kernel
      refine ⟨e, z - 1, by rw [hm]; exact hr.is, ?_, ?_, ?_, ?_, ?_⟩
      · rw [hE]; grind
      · rw [hE]; grind
      · rw [hE]; exact hr.rep
      · rw [hE]; grind
      · rw [hE]; grind
    · rw [if_neg (fun h => h1 (i1.mp h))] at hm
      have hge : 0 ≤ p := by
        rcases (Rat.le_total : p ≤ 0 ∨ 0 ≤ p) with h | h
        · have := hn h; grind
        · exact h
      have hb := hp hge
      refine ⟨f, z, by rw [hm]; exact hf, ?_, ?_, ?_, ?_, ?_⟩ <;> grind
theorem half_near (n d : Nat) (hd : 0 < d) : 2 * Float64.dist n (d * halfEven n d) ≤ d := by
  have h1 := halfEven_nearest n d hd (n / d)
  have h2 := halfEven_nearest n d hd (n / d + 1)
  have a := Nat.div_add_mod n d
  have b := Nat.mod_lt n hd
  have e : d * (n / d + 1) = d * (n / d) + d := by rw [Nat.mul_add, Nat.mul_one]
  rw [e] at h2
  generalize d * (n / d) = y at *
  generalize d * halfEven n d = w at *
  unfold Float64.dist at *
  (first | lia | omega)
theorem shift_val {x : UInt64} {q : Rat} {a : Bool} {m : Nat} {e : Int} (hx : Is x q) (hd : decode x = .fin a m e) : q * (((shift m 1 e).2 : Int) : Rat) = ((sgn a (shift m 1 e).1 : Int) : Rat) := by
  have he := decode_ge hd
  have hs := shift_one m e 1074 (by (first | lia | omega))
  have hv := hx.val
  rw [val_eq hd] at hv
  have h1 : sgn a (shift m 1 e).1 * ((2 ^ 1074 : Nat) : Int) = sgn a (m * 2 ^ (e + 1074).toNat) * ((shift m 1 e).2 : Int) := by
    rw [← sgn_mul, hs, sgn_mul]; rfl
  have h2 := congrArg (fun z : Int => (z : Rat)) h1
  simp only [Rat.intCast_mul] at h2
  rw [SC_nat, hv] at h2
  refine rat_eq_cancel SC_pos ?_
  rw [h2]; grind
theorem near_is {x : UInt64} {q : Rat} (hx : Is x q) {N : Int} (h1 : q - N < 1 / 2) (h2 : (N : Rat) - q < 1 / 2) : Flt.toInt nearestOf x = N := by
  obtain ⟨a, m, e, hd⟩ := hx.fin
  have hsv := shift_val hx hd
  have hdp := shift_pos m 1 e (by decide)
  have ht : Flt.toInt nearestOf x = sgn a (halfEven (shift m 1 e).1 (shift m 1 e).2) := by
    unfold Flt.toInt nearestOf; rw [hd]
  rw [ht]
  generalize (shift m 1 e).1 = n at *
  generalize (shift m 1 e).2 = d at *
  have hn := half_near n d hdp
  have ds := dist_sgn a n (d * halfEven n d)
  rw [Nat.mul_comm d, sgn_mul] at ds
  rw [Nat.mul_comm d] at hn
  generalize halfEven n d = hv at *
  have k1 : 2 * (sgn a hv * (d : Int) - sgn a n) ≤ (d : Int) := by (first | lia | omega)
  have k2 : 2 * (sgn a n - sgn a hv * (d : Int)) ≤ (d : Int) := by (first | lia | omega)
  have k1' := Rat.intCast_le_intCast.mpr k1
  have k2' := Rat.intCast_le_intCast.mpr k2
  simp only [Rat.intCast_mul, Rat.intCast_sub] at k1' k2'
  rw [← hsv] at k1' k2'
  have hdr : (0 : Rat) < ((d : Int) : Rat) := by
    have := (Rat.intCast_lt_intCast (a := 0) (b := (d : Int))).mpr (by (first | lia | omega))
    simpa using this
  have two : (((2 : Int)) : Rat) = 2 := rfl
  rw [two] at k1' k2'
  have r1 : ((sgn a hv : Int) : Rat) - q ≤ 1 / 2 := rat_cancel hdr (by grind)
  have r2 : q - ((sgn a hv : Int) : Rat) ≤ 1 / 2 := rat_cancel hdr (by grind)
  have g1 : ((sgn a hv : Int) : Rat) < ((N + 1 : Int) : Rat) := by rw [Rat.intCast_add]; have : (((1 : Int)) : Rat) = 1 := rfl; grind
  have g2 : ((N - 1 : Int) : Rat) < ((sgn a hv : Int) : Rat) := by rw [Rat.intCast_sub]; have : (((1 : Int)) : Rat) = 1 := rfl; grind
  have f1 := Rat.intCast_lt_intCast.mp g1
  have f2 := Rat.intCast_lt_intCast.mp g2
  (first | lia | omega)
end Mine
end
/- MyFlt9 -/
section
open PySem PySem.Float64
set_option maxRecDepth 100000
namespace Mine
theorem floor_shift (m : Nat) (e : Int) : floorOf false m e = (((shift m 1 e).1 / (shift m 1 e).2 : Nat) : Int) := by
  unfold floorOf shift
  have hs : sgn false m = (m : Int) := by simp [sgn]
  rw [hs]
  split
  · simp
  · simp only [Nat.one_mul]
    rw [Int.fdiv_eq_ediv_of_nonneg _ (by have := Int.pow_pos (n := (2 : Int)) (m := (-e).toNat) (by decide); (first | lia | omega))]
    simp
theorem trunc_is {x : UInt64} {q : Rat} (hx : Is x q) (h0 : 0 ≤ q) {z : Int} (h1 : (z : Rat) ≤ q) (h2 : q < (z : Rat) + 1) : Flt.toInt truncOf x = z := by
  obtain ⟨a, m, e, hd⟩ := hx.fin
  have hsv := shift_val hx hd
  have hdp := shift_pos m 1 e (by decide)
  have ht : Flt.toInt truncOf x = truncOf a m e := by unfold Flt.toInt; rw [hd]
  rw [ht]
  have hdr : (0 : Rat) < (((shift m 1 e).2 : Int) : Rat) := by
    have := (Rat.intCast_lt_intCast (a := 0) (b := ((shift m 1 e).2 : Int))).mpr (by (first | lia | omega))
    simpa using this
  have hnn : 0 ≤ sgn a (shift m 1 e).1 := by
    refine Rat.intCast_le_intCast.mp ?_
    rw [← hsv]; exact Rat.mul_nonneg h0 (Rat.le_of_lt hdr)
  have hval : truncOf a m e = (((shift m 1 e).1 / (shift m 1 e).2 : Nat) : Int) := by
    cases a
    · unfold truncOf; simp only [Bool.false_eq_true, if_false]; exact floor_shift m e
    · have hz : (shift m 1 e).1 = 0 := by unfold sgn at hnn; simp only [if_true] at hnn; (first | lia | omega)
      unfold truncOf ceilOf
      simp only [if_true, Bool.not_true]
      rw [floor_shift, hz]; simp
  rw [hval]
  have hsg : sgn a (shift m 1 e).1 = ((shift m 1 e).1 : Int) := by
    unfold sgn at *; cases a <;> simp_all
  rw [hsg] at hsv
  generalize (shift m 1 e).1 = n at *
  generalize (shift m 1 e).2 = d at *
  have g1 : z * (d : Int) ≤ (n : Int) := by
    refine Rat.intCast_le_intCast.mp ?_
    rw [Rat.intCast_mul, ← hsv]; exact Rat.mul_le_mul_of_nonneg_right h1 (Rat.le_of_lt hdr)
  have g2 : (n : Int) < (z + 1) * (d : Int) := by
    refine Rat.intCast_lt_intCast.mp ?_
    rw [Rat.intCast_mul, Rat.intCast_add, ← hsv]
    exact (Rat.mul_lt_mul_right hdr).mpr h2
  have hz0 : 0 ≤ z := by
    by_cases h : 0 ≤ z
    · exact h
    · have : (z + 1) * (d : Int) ≤ 0 := by
        have := Int.mul_le_mul_of_nonneg_right (show z + 1 ≤ 0 by (first | lia | omega)) (show (0 : Int) ≤ d by (first | lia | omega))
        (first | lia | omega)
      (first | lia | omega)
  obtain ⟨w, rfl⟩ := Int.eq_ofNat_of_zero_le hz0
  congr 1
  have g1' : w * d ≤ n := by exact_mod_cast g1
  have g2' : n < (w + 1) * d := by exact_mod_cast g2
  exact Nat.div_eq_of_lt_le g1' (by simpa using g2')
theorem ofInt_is {i : Int} (h : i.natAbs < 2 ^ 53) : Is (ofInt i) (i : Rat) := by
  have hr := ofInt_right i
  have b1 := Rat.intCast_le_intCast.mpr (show i ≤ (2 ^ 53 : Int) by (first | lia | omega))
  have b2 := Rat.intCast_le_intCast.mpr (show -(2 ^ 53 : Int) ≤ i by (first | lia | omega))
  have c1 : (((2 ^ 53 : Int)) : Rat) ≤ ((2 ^ 100 : Int) : Rat) := by decide +kernel
  have c2 : (((-(2 ^ 53) : Int)) : Rat) = -((2 ^ 53 : Int) : Rat) := by decide +kernel
  rw [c2] at b2
  obtain ⟨e, h1, _, h3⟩ := right_is hr (by decide) (E := (i : Rat)) (by
    rw [one_cast, Rat.mul_one, sgn_mul, sgn_decide, Rat.intCast_mul, SC_nat]) (by grind) (by grind)
  have := h3 ⟨i, 0, h, by decide, by show (i : Rat) * 1 = i; grind⟩
  subst this
  exact h1
end Mine
end
/- MyGr -/
section
open PySem PySem.Float64
set_option maxRecDepth 100000
namespace Mine
/-- q is a whole number of 1 / 2 ^ g -/
def Gr (g : Nat) (q : Rat) : Prop := ∃ N : Int, q * (((2 ^ g : Nat) : Int) : Rat) = (N : Rat)
theorem Gr.int (n : Int) : Gr 0 (n : Rat) := ⟨n, by show (n : Rat) * 1 = n; grind⟩
theorem Gr.mono {i j : Nat} {q : Rat} (h : Gr i q) (hij : i ≤ j) : Gr j q := by
  obtain ⟨N, hN⟩ := h
  refine ⟨N * ((2 ^ (j - i) : Nat) : Int), ?_⟩
  have e : (2 : Nat) ^ j = 2 ^ i * 2 ^ (j - i) := by rw [← Nat.pow_add]; congr 1; (first | lia | omega)
  rw [e, Int.natCast_mul, Rat.intCast_mul, Rat.intCast_mul, ← hN]; grind
theorem Gr.add {g : Nat} {p q : Rat} (h : Gr g p) (h' : Gr g q) : Gr g (p + q) := by
  obtain ⟨N, hN⟩ := h
  obtain ⟨M, hM⟩ := h'
  exact ⟨N + M, by rw [Rat.intCast_add, ← hN, ← hM]; grind⟩
theorem Gr.sub {g : Nat} {p q : Rat} (h : Gr g p) (h' : Gr g q) : Gr g (p - q) := by
  obtain ⟨N, hN⟩ := h
  obtain ⟨M, hM⟩ := h'
  exact ⟨N - M, by rw [Rat.intCast_sub, ← hN, ← hM]; grind⟩
theorem Gr.mul {i j : Nat} {p q : Rat} (h : Gr i p) (h' : Gr j q) : Gr (i + j) (p * q) := by
  obtain ⟨N, hN⟩ := h
  obtain ⟨M, hM⟩ := h'
  exact ⟨N * M, by rw [Nat.pow_add, Int.natCast_mul, Rat.intCast_mul, Rat.intCast_mul, ← hN, ← hM]; grind⟩
theorem Gr.div (n : Int) (g : Nat) : Gr g ((n : Rat) / (((2 ^ g : Nat) : Int) : Rat)) := ⟨n, by have := pow_cast_pos g; grind⟩
theorem Gr.rep {g : Nat} {q : Rat} (h : Gr g q) (hg : g ≤ 30) (h1 : -4194304 ≤ q) (h2 : q ≤ 4194304) : Rep q := by
  obtain ⟨N, hN⟩ := h.mono hg
  refine ⟨N, 30, ?_, by decide, hN⟩
  have c : (((2 ^ 30 : Nat) : Int) : Rat) = 1073741824 := rfl
  rw [c] at hN
  have a1 : ((-4503599627370496 : Int) : Rat) ≤ (N : Rat) := by rw [← hN]; have : ((-4503599627370496 : Int) : Rat) = -4503599627370496 := rfl; grind
  have a2 : (N : Rat) ≤ ((4503599627370496 : Int) : Rat) := by rw [← hN]; have : ((4503599627370496 : Int) : Rat) = 4503599627370496 := rfl; grind
  have b1 := Rat.intCast_le_intCast.mp a1
  have b2 := Rat.intCast_le_intCast.mp a2
  (first | lia | omega)
theorem big100 : (4194304 : Rat) ≤ ((2 ^ 100 : Int) : Rat) := by decide +kernel
theorem addX {x y : UInt64} {p q : Rat} (hx : Is x p) (hy : Is y q) {g : Nat} (hg : Gr g (p + q)) (h30 : g ≤ 30) (h1 : -4194304 ≤ p + q) (h2 : p + q ≤ 4194304) : Is (add x y) (p + q) := by
  have := big100
  obtain ⟨e, hr⟩ := add_is hx hy (by grind) (by grind)
  have e1 := hr.rep (hg.rep h30 h1 h2)
  rw [← e1]; exact hr.is
theorem subX {x y : UInt64} {p q : Rat} (hx : Is x p) (hy : Is y q) {g : Nat} (hg : Gr g (p - q)) (h30 : g ≤ 30) (h1 : -4194304 ≤ p - q) (h2 : p - q ≤ 4194304) : Is (sub x y) (p - q) := by
  have := big100
  obtain ⟨e, hr⟩ := sub_is hx hy (by grind) (by grind)
  have e1 := hr.rep (hg.rep h30 h1 h2)
  rw [← e1]; exact hr.is
theorem mulX {x y : UInt64} {p q : Rat} (hx : Is x p) (hy : Is y q) {g : Nat} (hg : Gr g (p * q)) (h30 : g ≤ 30) (h1 : -4194304 ≤ p * q) (h2 : p * q ≤ 4194304) : Is (mul x y) (p * q) := by
  have := big100
  obtain ⟨e, hr⟩ := mul_is hx hy (by grind) (by grind)
  have e1 := hr.rep (hg.rep h30 h1 h2)
  rw [← e1]; exact hr.is
theorem divX {x y : UInt64} {p q : Rat} (hx : Is x p) (hy : Is y q) (hq : q ≠ 0) {g : Nat} (hg : Gr g (p / q)) (h30 : g ≤ 30) (h1 : -4194304 ≤ p / q) (h2 : p / q ≤ 4194304) : Is (div x y) (p / q) := by
  have := big100
  obtain ⟨e, hr⟩ := div_is hx hy hq (by grind) (by grind)
  have e1 := hr.rep (hg.rep h30 h1 h2)
  rw [← e1]; exact hr.is
theorem frX {a b : Int} (hb : b ≠ 0) {g : Nat} (hg : Gr g ((a : Rat) / (b : Rat))) (h30 : g ≤ 30) (h1 : -4194304 ≤ (a : Rat) / (b : Rat)) (h2 : (a : Rat) / (b : Rat) ≤ 4194304) : Is (fr a b) ((a : Rat) / (b : Rat)) := by
  have := big100
  obtain ⟨e, hr⟩ := fr_is (a := a) hb (by grind) (by grind)
  have e1 := hr.rep (hg.rep h30 h1 h2)
  rw [← e1]; exact hr.is
end Mine
end
/- MyHsv -/
section
open PySem PySem.Float64
set_option maxRecDepth 100000
namespace Mine
theorem rat_mul_bound {x y X Y : Rat} (h1 : -X ≤ x) (h2 : x ≤ X) (h3 : -Y ≤ y) (h4 : y ≤ Y) : -(X * Y) ≤ x * y ∧ x * y ≤ X * Y := by
  have a := Rat.mul_nonneg (show 0 ≤ X - x by grind) (show 0 ≤ Y - y by grind)
  have b := Rat.mul_nonneg (show 0 ≤ X + x by grind) (show 0 ≤ Y + y by grind)
  have c := Rat.mul_nonneg (show 0 ≤ X - x by grind) (show 0 ≤ Y + y by grind)
  have d := Rat.mul_nonneg (show 0 ≤ X + x by grind) (show 0 ≤ Y - y by grind)
  constructor <;> grind
/-- the sizes of a triple -/
structure Tri (a b : Nat) (turn share level hues parts : Int) : Prop where
  a2 : 2 ≤ a
  a10 : a ≤ 10
  b1 : 1 ≤ b
  b10 : b ≤ 10
  hh : hues = ((2 ^ a : Nat) : Int)
  hp : parts = ((2 ^ b : Nat) : Int)
  t1 : -4096 ≤ turn
  t2 : turn ≤ 4096
  s1 : -(4 * parts) ≤ share
  s2 : share ≤ 4 * parts
  l1 : -(4 * parts) ≤ level
  l2 : level ≤ 4 * parts
section
variable {a b : Nat} {turn share level hues parts : Int}
theorem Tri.hues_pos (T : Tri a b turn share level hues parts) : 4 ≤ hues ∧ hues ≤ 1024 := by
  have h1 := Nat.pow_le_pow_right (n := 2) (by decide) T.a2
  have h2 := Nat.pow_le_pow_right (n := 2) (by decide) T.a10
  rw [T.hh]; (first | lia | omega)
theorem Tri.parts_pos (T : Tri a b turn share level hues parts) : 2 ≤ parts ∧ parts ≤ 1024 := by
  have h1 := Nat.pow_le_pow_right (n := 2) (by decide) T.b1
  have h2 := Nat.pow_le_pow_right (n := 2) (by decide) T.b10
  rw [T.hp]; (first | lia | omega)
theorem cast_pos {n : Int} (h : 0 < n) : (0 : Rat) < (n : Rat) := by
  have := (Rat.intCast_lt_intCast (a := 0) (b := n)).mpr h
  simpa using this
theorem div_bound {n d : Int} {B : Int} (hd : 0 < d) (h1 : -(B * d) ≤ n) (h2 : n ≤ B * d) : -(B : Rat) ≤ (n : Rat) / (d : Rat) ∧ (n : Rat) / (d : Rat) ≤ (B : Rat) := by
  have hp := cast_pos hd
  have e : (n : Rat) / (d : Rat) * (d : Rat) = n := by grind
  have i1 := Rat.intCast_le_intCast.mpr h1
  have i2 := Rat.intCast_le_intCast.mpr h2
  rw [Rat.intCast_neg, Rat.intCast_mul] at i1
  rw [Rat.intCast_mul] at i2
  constructor
  · refine rat_cancel hp ?_; rw [e]; grind
  · refine rat_cancel hp ?_; rw [e]; grind
theorem Tri.H (T : Tri a b turn share level hues parts) : Is (fr turn hues) ((turn : Rat) / (hues : Rat)) ∧ Gr 10 ((turn : Rat) / (hues : Rat)) ∧ -1024 ≤ (turn : Rat) / (hues : Rat) ∧ (turn : Rat) / (hues : Rat) ≤ 1024 := by
  have hb := T.hues_pos
  have t1 := T.t1
  have t2 := T.t2
  have hd := div_bound (n := turn) (d := hues) (B := 1024) (by (first | lia | omega)) (by (first | lia | omega)) (by (first | lia | omega))
  have c : ((1024 : Int) : Rat) = 1024 := rfl
  rw [c] at hd
  have hg : Gr 10 ((turn : Rat) / (hues : Rat)) := by rw [T.hh]; exact (Gr.div turn a).mono T.a10
  exact ⟨frX (by (first | lia | omega)) hg (by decide) (by grind) (by grind), hg, hd.1, hd.2⟩
theorem Tri.S (T : Tri a b turn share level hues parts) : Is (fr share parts) ((share : Rat) / (parts : Rat)) ∧ Gr 10 ((share : Rat) / (parts : Rat)) ∧ -4 ≤ (share : Rat) / (parts : Rat) ∧ (share : Rat) / (parts : Rat) ≤ 4 := by
  have hb := T.parts_pos
  have t1 := T.s1
  have t2 := T.s2
  have hd := div_bound (n := share) (d := parts) (B := 4) (by (first | lia | omega)) (by (first | lia | omega)) (by (first | lia | omega))
  have c : ((4 : Int) : Rat) = 4 := rfl
  rw [c] at hd
  have hg : Gr 10 ((share : Rat) / (parts : Rat)) := by rw [T.hp]; exact (Gr.div share b).mono T.b10
  exact ⟨frX (by (first | lia | omega)) hg (by decide) (by grind) (by grind), hg, hd.1, hd.2⟩
theorem Tri.L (T : Tri a b turn share level hues parts) : Is (fr level parts) ((level : Rat) / (parts : Rat)) ∧ Gr 10 ((level : Rat) / (parts : Rat)) ∧ -4 ≤ (level : Rat) / (parts : Rat) ∧ (level : Rat) / (parts : Rat) ≤ 4 := by
  have hb := T.parts_pos
  have t1 := T.l1
  have t2 := T.l2
  have hd := div_bound (n := level) (d := parts) (B := 4) (by (first | lia | omega)) (by (first | lia | omega)) (by (first | lia | omega))
  have c : ((4 : Int) : Rat) = 4 := rfl
  rw [c] at hd
  have hg : Gr 10 ((level : Rat) / (parts : Rat)) := by rw [T.hp]; exact (Gr.div level b).mono T.b10
  exact ⟨frX (by (first | lia | omega)) hg (by decide) (by grind) (by grind), hg, hd.1, hd.2⟩
end
end Mine
end
/- MyHsv2 -/
section
open PySem PySem.Float64
set_option maxRecDepth 100000
namespace Mine
section
variable {a b : Nat} {turn share level hues parts : Int}
/-- the sector, the rest in it -/
theorem Tri.sector (T : Tri a b turn share level hues parts) (h0 : 0 ≤ turn) : ∃ (y k z : Int), turn = y + hues * z ∧ 0 ≤ y ∧ y < hues ∧ y = turn.fmod hues ∧ 0 ≤ k ∧ k ≤ 5 ∧ k * hues ≤ 6 * y ∧ 6 * y < (k + 1) * hues ∧ 0 ≤ z ∧
    Is (mul (fr turn hues) 4618441417868443648) ((turn : Rat) / hues * 6) ∧ hsvI (fr turn hues) = k + 6 * z ∧
    Is (hsvf (fr turn hues)) (((6 * y - k * hues : Int) : Rat) / hues) ∧ Gr 10 (((6 * y - k * hues : Int) : Rat) / hues) ∧ 0 ≤ ((6 * y - k * hues : Int) : Rat) / hues ∧ ((6 * y - k * hues : Int) : Rat) / hues ≤ 1 ∧
    ((k = 0 ∧ fallI turn 0 hues = 0 ∧ fallI turn (2 * hues) hues = hues - 6 * y ∧ fallI turn (4 * hues) hues = hues) ∨
     (k = 1 ∧ fallI turn 0 hues = 6 * y - hues ∧ fallI turn (2 * hues) hues = 0 ∧ fallI turn (4 * hues) hues = hues) ∨
     (k = 2 ∧ fallI turn 0 hues = hues ∧ fallI turn (2 * hues) hues = 0 ∧ fallI turn (4 * hues) hues = 3 * hues - 6 * y) ∨
     (k = 3 ∧ fallI turn 0 hues = hues ∧ fallI turn (2 * hues) hues = 6 * y - 3 * hues ∧ fallI turn (4 * hues) hues = 0) ∨
     (k = 4 ∧ fallI turn 0 hues = 5 * hues - 6 * y ∧ fallI turn (2 * hues) hues = hues ∧ fallI turn (4 * hues) hues = 0) ∨
     (k = 5 ∧ fallI turn 0 hues = 0 ∧ fallI turn (2 * hues) hues = hues ∧ fallI turn (4 * hues) hues = 6 * y - 5 * hues)) := by
  have hb := T.hues_pos
  obtain ⟨z, hz, z0, z1⟩ := fmod_split turn (show 0 < hues by (first | lia | omega))
  obtain ⟨y, hy, y0, y1, k, k0, k5, k1, k2, hf⟩ := falls turn (show 0 < hues by (first | lia | omega))
  rw [← hy] at hz
  have hzz : 0 ≤ z := by
    by_cases h : 0 ≤ z
    · exact h
    · have := Int.mul_le_mul_of_nonneg_left (show z ≤ -1 by (first | lia | omega)) (show 0 ≤ hues by (first | lia | omega))
      (first | lia | omega)
  obtain ⟨hH, gH, H1, H2⟩ := T.H
  have hpos := cast_pos (show 0 < hues by (first | lia | omega))
  have g6 : Gr 10 ((turn : Rat) / hues * 6) := (gH.mul (Gr.int 6)).mono (by decide)
  have m6 : Is (mul (fr turn hues) 4618441417868443648) ((turn : Rat) / hues * 6) := mulX hH is_6 g6 (by decide) (by grind) (by grind)
  have eH : (turn : Rat) / hues * hues = turn := by grind
  have eK : (turn : Rat) / hues * 6 - ((k + 6 * z : Int) : Rat) = ((6 * y - k * hues : Int) : Rat) / hues := by
    refine rat_eq_cancel hpos ?_
    have e2 : ((6 * y - k * hues : Int) : Rat) / hues * hues = ((6 * y - k * hues : Int) : Rat) := by grind
    rw [e2, rat_sub_mul]
    have e3 : (turn : Rat) / hues * 6 * hues = 6 * (turn : Rat) := by grind
    rw [e3, hz]
    simp only [Rat.intCast_add, Rat.intCast_sub, Rat.intCast_mul]
    have c6 : ((6 : Int) : Rat) = 6 := rfl
    rw [c6]; grind
  have fb := div_bound (n := 6 * y - k * hues) (d := hues) (B := 1) (by (first | lia | omega)) (by rw [Int.add_mul] at k2; (first | lia | omega)) (by rw [Int.add_mul] at k2; (first | lia | omega))
  have c1 : ((1 : Int) : Rat) = 1 := rfl
  rw [c1] at fb
  have f0 : 0 ≤ ((6 * y - k * hues : Int) : Rat) / hues := by
    refine rat_cancel hpos ?_
    have e2 : ((6 * y - k * hues : Int) : Rat) / hues * hues = ((6 * y - k * hues : Int) : Rat) := by grind
    rw [e2]
    have := (Rat.intCast_le_intCast (a := 0)).mpr (show 0 ≤ 6 * y - k * hues by (first | lia | omega))
    have c0 : ((0 : Int) : Rat) = 0 := rfl
    grind
  have f1 : ((6 * y - k * hues : Int) : Rat) / hues < 1 := by
    refine rat_lt_cancel hpos ?_
    have e2 : ((6 * y - k * hues : Int) : Rat) / hues * hues = ((6 * y - k * hues : Int) : Rat) := by grind
    rw [e2, Rat.one_mul]
    exact Rat.intCast_lt_intCast.mpr (by rw [Int.add_mul] at k2; (first | lia | omega))
  have gf : Gr 10 (((6 * y - k * hues : Int) : Rat) / hues) := by rw [T.hh]; exact (Gr.div _ a).mono T.a10
  have hI : hsvI (fr turn hues) = k + 6 * z := by
    unfold hsvI
    refine trunc_is m6 ?_ ?_ ?_
    · have := (Rat.intCast_le_intCast (a := 0)).mpr (show 0 ≤ k + 6 * z by (first | lia | omega))
      have c0 : ((0 : Int) : Rat) = 0 := rfl
      grind
    · grind
    · grind
  have hz5 : z ≤ 1024 := by
    by_cases h : z ≤ 1024
    · exact h
    · have := Int.mul_le_mul_of_nonneg_left (show 1025 ≤ z by (first | lia | omega)) (show 0 ≤ hues by (first | lia | omega))
      have := T.t2
      (first | lia | omega)
  have hsf : Is (hsvf (fr turn hues)) (((6 * y - k * hues : Int) : Rat) / hues) := by
    unfold hsvf
    rw [hI, ← eK]
    refine subX m6 (ofInt_is (by (first | lia | omega))) (g := 10) ?_ (by decide) ?_ ?_
    · rw [eK]; exact gf
    · rw [eK]; grind
    · rw [eK]; grind
  exact ⟨y, k, z, hz, y0, y1, hy, k0, k5, k1, k2, hzz, m6, hI, hsf, gf, f0, fb.2, hf⟩
end
end Mine
end
/- MyHsv3 -/
section
open PySem PySem.Float64
set_option maxRecDepth 100000
namespace Mine
section
variable {a b : Nat} {turn share level hues parts : Int}
/-- one component: level * (1 - share * fall) -/
def cV (share level hues parts fall : Int) : Rat := (level : Rat) / parts * (1 - (share : Rat) / parts * ((fall : Rat) / hues))
theorem comp_is {v s f : UInt64} {W S F : Rat} (hv : Is v W) (hs : Is s S) (hf : Is f F) (gW : Gr 10 W) (gS : Gr 10 S) (gF : Gr 10 F) (w1 : -4 ≤ W) (w2 : W ≤ 4) (s1 : -4 ≤ S) (s2 : S ≤ 4) (f0 : 0 ≤ F) (f1 : F ≤ 1) :
    Is (mul v (sub 4607182418800017408 (mul s f))) (W * (1 - S * F)) ∧ Gr 30 (W * (1 - S * F)) ∧ -20 ≤ W * (1 - S * F) ∧ W * (1 - S * F) ≤ 20 := by
  have p1 := rat_mul_bound (x := S) (y := F) (X := 4) (Y := 1) s1 s2 (by grind) f1
  have g1 : Gr 20 (S * F) := gS.mul gF
  have m1 := mulX hs hf g1 (by decide) (by grind) (by grind)
  have gi : Gr 0 (1 : Rat) := Gr.int 1
  have g2 : Gr 20 (1 - S * F) := (gi.mono (by decide)).sub g1
  have m2 := subX is_1 m1 g2 (by decide) (by grind) (by grind)
  have p2 := rat_mul_bound (x := W) (y := 1 - S * F) (X := 4) (Y := 5) w1 w2 (by grind) (by grind)
  have g3 : Gr 30 (W * (1 - S * F)) := gW.mul g2
  exact ⟨mulX hv m2 g3 (by decide) (by grind) (by grind), g3, by grind, by grind⟩
theorem Tri.told (T : Tri a b turn share level hues parts) {fall c : Int} (hf : fallI turn c hues = fall) (f0 : 0 ≤ fall) (f1 : fall ≤ hues) : Is (toldV turn share level hues parts c) (cV share level hues parts fall) := by
  obtain ⟨hS, gS, S1, S2⟩ := T.S
  obtain ⟨hL, gL, L1, L2⟩ := T.L
  have hb := T.hues_pos
  have pb := T.parts_pos
  have hpos := cast_pos (show 0 < hues by (first | lia | omega))
  have ppos := cast_pos (show 0 < parts by (first | lia | omega))
  have fb := div_bound (n := fall) (d := hues) (B := 1) (by (first | lia | omega)) (by (first | lia | omega)) (by (first | lia | omega))
  have c1 : ((1 : Int) : Rat) = 1 := rfl
  rw [c1] at fb
  have p1 := rat_mul_bound (x := (share : Rat) / parts) (y := (fall : Rat) / hues) (X := 4) (Y := 1) S1 S2 fb.1 fb.2
  have p2 := rat_mul_bound (x := (level : Rat) / parts) (y := 1 - (share : Rat) / parts * ((fall : Rat) / hues)) (X := 4) (Y := 5) L1 L2 (by grind) (by grind)
  have hM : parts * parts * hues = ((2 ^ (b + b + a) : Nat) : Int) := by
    rw [T.hh, T.hp, Nat.pow_add, Nat.pow_add]; simp
  have e : ((level * (parts * hues - share * fall) : Int) : Rat) / ((parts * parts * hues : Int) : Rat) = cV share level hues parts fall := by
    unfold cV
    simp only [Rat.intCast_mul, Rat.intCast_sub]
    have hMp : (0 : Rat) < (parts : Rat) * parts * hues := Rat.mul_pos (Rat.mul_pos ppos ppos) hpos
    refine rat_eq_cancel hMp ?_
    have e1 : (level : Rat) * (parts * hues - share * fall) / (parts * parts * hues) * (parts * parts * hues) = level * (parts * hues - share * fall) := by grind
    rw [e1]
    have a1 : (level : Rat) / parts * parts = level := by grind
    have a2 : (share : Rat) / parts * parts = share := by grind
    have a3 : (fall : Rat) / hues * hues = fall := by grind
    generalize (level : Rat) / parts = x at *
    generalize (share : Rat) / parts = y at *
    generalize (fall : Rat) / hues = u at *
    rw [← a1, ← a2, ← a3]; grind
  unfold toldV
  rw [hf, ← e]
  refine frX (by rw [hM]; have := Nat.two_pow_pos (b + b + a); (first | lia | omega)) (g := b + b + a) ?_ (by have := T.a10; have := T.b10; (first | lia | omega)) ?_ ?_
  · rw [hM]; exact Gr.div _ _
  · rw [e]; unfold cV; grind
  · rw [e]; unfold cV; grind
end
end Mine
end
/- MyHsv4 -/
section
open PySem PySem.Float64
set_option maxRecDepth 100000
namespace Mine
section
variable {a b : Nat} {turn share level hues parts : Int}
structure Is3 (t : T3) (p q u : Rat) : Prop where
  r : Is t.1 p
  g : Is t.2.1 q
  b : Is t.2.2 u
theorem cV_int {share level hues parts fall : Int} {φ : Rat} (h : (fall : Rat) / hues = φ) : cV share level hues parts fall = (level : Rat) / parts * (1 - (share : Rat) / parts * φ) := by unfold cV; rw [h]
theorem Tri.given (T : Tri a b turn share level hues parts) (h0 : 0 ≤ turn) :
    Is3 (gV turn share level hues parts) (cV share level hues parts (fallI turn 0 hues)) (cV share level hues parts (fallI turn (2 * hues) hues)) (cV share level hues parts (fallI turn (4 * hues) hues)) := by
  obtain ⟨hS, gS, S1, S2⟩ := T.S
  obtain ⟨hL, gL, L1, L2⟩ := T.L
  have hb := T.hues_pos
  have hpos := cast_pos (show 0 < hues by (first | lia | omega))
  obtain ⟨y, k, z, hz, y0, y1, hy, k0, k5, k1, k2, hzz, m6, hI, hsf, gf, f0, f1, hf⟩ := T.sector h0
  have zc := cmp_eqb hS is_0
  unfold gV hsvF
  by_cases hs0 : (share : Rat) / parts = 0
  · rw [if_pos (zc.mpr hs0)]
    have e : ∀ fall, cV share level hues parts fall = (level : Rat) / parts := fun fall => by unfold cV; rw [hs0]; grind
    rw [e, e, e]
    exact ⟨hL, hL, hL⟩
  · rw [if_neg (fun h => hs0 (zc.mp h)), hI]
    have hk : (k + 6 * z).fmod 6 = k := fmod_unique (z := z) rfl k0 (by (first | lia | omega))
    rw [hk]
    have gi : Gr 0 (1 : Rat) := Gr.int 1
    have P : Is (hsvp (fr share parts) (fr level parts)) ((level : Rat) / parts * (1 - (share : Rat) / parts * 1)) := by
      unfold hsvp
      have e : (1 : Rat) - (share : Rat) / parts * 1 = 1 - (share : Rat) / parts := by grind
      rw [e]
      have g2 : Gr 10 (1 - (share : Rat) / parts) := (gi.mono (by decide)).sub gS
      have m2 := subX is_1 hS g2 (by decide) (by grind) (by grind)
      have p2 := rat_mul_bound (x := (level : Rat) / parts) (y := 1 - (share : Rat) / parts) (X := 4) (Y := 5) L1 L2 (by grind) (by grind)
      exact mulX hL m2 (gL.mul g2) (by decide) (by grind) (by grind)
    have V0 : Is (fr level parts) ((level : Rat) / parts * (1 - (share : Rat) / parts * 0)) := by
      have e : (level : Rat) / parts * (1 - (share : Rat) / parts * 0) = (level : Rat) / parts := by grind
      rw [e]; exact hL
    have Qv := (comp_is hL hS hsf gL gS gf L1 L2 S1 S2 f0 f1).1
    have gt : Gr 10 (1 - ((6 * y - k * hues : Int) : Rat) / hues) := (gi.mono (by decide)).sub gf
    have hsub := subX is_1 hsf gt (by decide) (by grind) (by grind)
    have Tv := (comp_is hL hS hsub gL gS gt L1 L2 S1 S2 (by grind) (by grind)).1
    have d0 : ((0 : Int) : Rat) / hues = 0 := by show (0 : Rat) / _ = 0; grind
    have d1 : (hues : Rat) / hues = 1 := by grind
    have dt : ∀ n : Int, n = hues - (6 * y - k * hues) → (n : Rat) / hues = 1 - ((6 * y - k * hues : Int) : Rat) / hues := fun n hn => by
      rw [hn, Rat.intCast_sub]
      generalize ((6 * y - k * hues : Int) : Rat) = x
      grind
    rcases hf with ⟨rfl, r, g, bb⟩ | ⟨rfl, r, g, bb⟩ | ⟨rfl, r, g, bb⟩ | ⟨rfl, r, g, bb⟩ | ⟨rfl, r, g, bb⟩ | ⟨rfl, r, g, bb⟩
    · rw [if_pos rfl, r, g, bb, cV_int d0, cV_int d1, cV_int (dt _ (by (first | lia | omega)))]
      exact ⟨V0, Tv, P⟩
    · rw [if_neg (by decide), if_pos rfl, r, g, bb, cV_int d0, cV_int d1, cV_int (show (((6 * y - hues : Int)) : Rat) / hues = _ by rw [show 6 * y - hues = 6 * y - 1 * hues by (first | lia | omega)])]
      exact ⟨Qv, V0, P⟩
    · rw [if_neg (by decide), if_neg (by decide), if_pos rfl, r, g, bb, cV_int d0, cV_int d1, cV_int (dt _ (by (first | lia | omega)))]
      exact ⟨P, V0, Tv⟩
    · rw [if_neg (by decide), if_neg (by decide), if_neg (by decide), if_pos rfl, r, g, bb, cV_int d0, cV_int d1, cV_int rfl]
      exact ⟨P, Qv, V0⟩
    · rw [if_neg (by decide), if_neg (by decide), if_neg (by decide), if_neg (by decide), if_pos rfl, r, g, bb, cV_int d0, cV_int d1, cV_int (dt _ (by (first | lia | omega)))]
      exact ⟨Tv, P, V0⟩
    · rw [if_neg (by decide), if_neg (by decide), if_neg (by decide), if_neg (by decide), if_neg (by decide), r, g, bb, cV_int d0, cV_int d1, cV_int rfl]
      exact ⟨V0, P, Qv⟩
end
end Mine
end
/- MyHsv5 -/
section
open PySem PySem.Float64
set_option maxRecDepth 100000
namespace Mine
section
variable {a b : Nat} {turn share level hues parts : Int}
theorem fall_bounds (turn c : Int) {h : Int} (hh : 0 < h) : 0 ≤ fallI turn c h ∧ fallI turn c h ≤ h := by
  unfold fallI clampI
  generalize farI ((6 * turn).fmod (6 * h)) c (6 * h) = x
  constructor <;> (repeat' split) <;> (first | lia | omega)
theorem Tri.valIn (T : Tri a b turn share level hues parts) (h0 : 0 ≤ turn) : ValIn turn share level hues parts := by
  have hb := T.hues_pos
  have fb := fun c => fall_bounds turn c (show 0 < hues by (first | lia | omega))
  obtain ⟨y, k, z, hz, y0, y1, hy, k0, k5, k1, k2, hzz, m6, hI, hsf, gf, f0, f1, hf⟩ := T.sector h0
  have hz5 : z ≤ 1024 := by
    by_cases h : z ≤ 1024
    · exact h
    · have := Int.mul_le_mul_of_nonneg_left (show 1025 ≤ z by (first | lia | omega)) (show 0 ≤ hues by (first | lia | omega))
      have := T.t2
      (first | lia | omega)
  have G := T.given h0
  exact ⟨isFinite_of m6, by rw [hI]; (first | lia | omega), (cmp_eq G.r (T.told rfl (fb _).1 (fb _).2)).mpr rfl, (cmp_eq G.g (T.told rfl (fb _).1 (fb _).2)).mpr rfl, (cmp_eq G.b (T.told rfl (fb _).1 (fb _).2)).mpr rfl⟩
end
end Mine
end
/- MyHsv6 -/
section
open PySem PySem.Float64
set_option maxRecDepth 100000
namespace Mine
theorem maxF_is {x y : UInt64} {p q : Rat} (hx : Is x p) (hy : Is y q) : ∃ m, Is (maxF x y) m ∧ p ≤ m ∧ q ≤ m ∧ (m = p ∨ m = q) := by
  unfold maxF
  by_cases h : p < q
  · rw [if_pos ((cmp_lt hx hy).mpr h)]; exact ⟨q, hy, by grind, by grind, .inr rfl⟩
  · rw [if_neg (fun e => h ((cmp_lt hx hy).mp e))]; exact ⟨p, hx, by grind, by grind, .inl rfl⟩
theorem minF_is {x y : UInt64} {p q : Rat} (hx : Is x p) (hy : Is y q) : ∃ m, Is (minF x y) m ∧ m ≤ p ∧ m ≤ q ∧ (m = p ∨ m = q) := by
  unfold minF
  by_cases h : q < p
  · rw [if_pos ((cmp_lt hy hx).mpr h)]; exact ⟨q, hy, by grind, by grind, .inr rfl⟩
  · rw [if_neg (fun e => h ((cmp_lt hy hx).mp e))]; exact ⟨p, hx, by grind, by grind, .inl rfl⟩
theorem max3_is {x y z : UInt64} {p q r : Rat} (hx : Is x p) (hy : Is y q) (hz : Is z r) : ∃ m, Is (max3 x y z) m ∧ p ≤ m ∧ q ≤ m ∧ r ≤ m ∧ (m = p ∨ m = q ∨ m = r) := by
  obtain ⟨m1, h1, a1, a2, a3⟩ := maxF_is hx hy
  obtain ⟨m2, h2, b1, b2, b3⟩ := maxF_is h1 hz
  exact ⟨m2, h2, by grind, by grind, b2, by grind⟩
theorem min3_is {x y z : UInt64} {p q r : Rat} (hx : Is x p) (hy : Is y q) (hz : Is z r) : ∃ m, Is (min3 x y z) m ∧ m ≤ p ∧ m ≤ q ∧ m ≤ r ∧ (m = p ∨ m = q ∨ m = r) := by
  obtain ⟨m1, h1, a1, a2, a3⟩ := minF_is hx hy
  obtain ⟨m2, h2, b1, b2, b3⟩ := minF_is h1 hz
  exact ⟨m2, h2, by grind, by grind, b2, by grind⟩
end Mine
end
/- MyHsv7 -/
section
open PySem PySem.Float64
set_option maxRecDepth 100000
namespace Mine
theorem hue_end {a : Nat} {hues : Int} (a10 : a ≤ 10) (hh : hues = ((2 ^ a : Nat) : Int)) {x : UInt64} {N t : Int} (hx : Is x ((N : Rat) / hues)) (t0 : 0 ≤ t) (t1 : t < 2 * hues) (hN : N = 3 * t ∨ N = 3 * t - 6 * hues) :
    Is (modF (div x 4618441417868443648)) ((t : Rat) / ((2 * hues : Int) : Rat)) := by
  have hp0 : 0 < hues := by rw [hh]; have := Nat.two_pow_pos a; (first | lia | omega)
  have hpos := cast_pos hp0
  have hpos2 := cast_pos (show 0 < 2 * hues by (first | lia | omega))
  have c2 : ((2 * hues : Int) : Rat) = 2 * (hues : Rat) := by rw [Rat.intCast_mul]; rfl
  have eT : (t : Rat) / ((2 * hues : Int) : Rat) * ((2 * hues : Int) : Rat) = t := by grind
  obtain ⟨w, hw⟩ : ∃ w : Int, N = 3 * t - 6 * hues * w ∧ (w = 0 ∨ w = 1) := by
    rcases hN with h | h
    · exact ⟨0, by (first | lia | omega), .inl rfl⟩
    · exact ⟨1, by (first | lia | omega), .inr rfl⟩
  have gT : Gr 11 ((t : Rat) / ((2 * hues : Int) : Rat)) := by
    have e : 2 * hues = ((2 ^ (a + 1) : Nat) : Int) := by rw [hh, Nat.pow_succ]; (first | lia | omega)
    rw [e]; exact (Gr.div t (a + 1)).mono (by (first | lia | omega))
  have T0 : 0 ≤ (t : Rat) / ((2 * hues : Int) : Rat) := by
    refine rat_cancel hpos2 ?_
    rw [eT]
    have := (Rat.intCast_le_intCast (a := 0)).mpr t0
    have c0 : ((0 : Int) : Rat) = 0 := rfl
    grind
  have T1 : (t : Rat) / ((2 * hues : Int) : Rat) < 1 := by
    refine rat_lt_cancel hpos2 ?_
    rw [eT, Rat.one_mul]
    exact Rat.intCast_lt_intCast.mpr t1
  have eN : (N : Rat) / hues / 6 = (t : Rat) / ((2 * hues : Int) : Rat) - w := by
    have e1 : (N : Rat) = 3 * t - 6 * hues * w := by
      rw [hw.1]; simp only [Rat.intCast_sub, Rat.intCast_mul]; rfl
    rw [e1, c2]
    rw [c2] at eT
    grind
  have w0 : (w : Rat) = 0 ∨ (w : Rat) = 1 := by
    rcases hw.2 with h | h <;> rw [h]
    · exact .inl rfl
    · exact .inr rfl
  have gw : Gr 11 ((t : Rat) / ((2 * hues : Int) : Rat) - w) := gT.sub ((Gr.int w).mono (by decide))
  have hd := divX hx is_6 (by decide +kernel) (g := 11) (by rw [eN]; exact gw) (by decide) (by rw [eN]; grind) (by rw [eN]; grind)
  rw [eN] at hd
  obtain ⟨u, z, hu, z0, z1, hrep, _, _⟩ := modF_is hd
  generalize (t : Rat) / ((2 * hues : Int) : Rat) = τ at *
  have hz : z = -w := by
    have g1 : ((-w - 1 : Int) : Rat) < (z : Rat) := by rw [Rat.intCast_sub, Rat.intCast_neg]; have : ((1 : Int) : Rat) = 1 := rfl; grind
    have g2 : (z : Rat) < ((-w + 1 : Int) : Rat) := by rw [Rat.intCast_add, Rat.intCast_neg]; have : ((1 : Int) : Rat) = 1 := rfl; grind
    have := Rat.intCast_lt_intCast.mp g1
    have := Rat.intCast_lt_intCast.mp g2
    (first | lia | omega)
  have e : τ - w - z = τ := by rw [hz, Rat.intCast_neg]; grind
  rw [e] at hrep
  have := hrep (gT.rep (by decide) (by grind) (by grind))
  rw [← this]; exact hu
theorem part_is {a : Nat} {hues : Int} (a10 : a ≤ 10) (hh : hues = ((2 ^ a : Nat) : Int)) {c mx rg : UInt64} {M D : Rat} {i : Int} (hc : Is c (M - D * ((i : Rat) / hues))) (hm : Is mx M) (hd : Is rg D) (hD : D ≠ 0) (gD : Gr 20 D) (D1 : -16 ≤ D) (D2 : D ≤ 16)
    (i0 : 0 ≤ i) (i1 : i ≤ hues) : Is (div (sub mx c) rg) ((i : Rat) / hues) ∧ Gr 10 ((i : Rat) / hues) ∧ 0 ≤ (i : Rat) / hues ∧ (i : Rat) / hues ≤ 1 := by
  have hp0 : 0 < hues := by rw [hh]; have := Nat.two_pow_pos a; (first | lia | omega)
  have hpos := cast_pos hp0
  have gI : Gr 10 ((i : Rat) / hues) := by rw [hh]; exact (Gr.div i a).mono a10
  have hb := div_bound (n := i) (d := hues) (B := 1) hp0 (by (first | lia | omega)) (by (first | lia | omega))
  have c1 : ((1 : Int) : Rat) = 1 := rfl
  rw [c1] at hb
  have I0 : 0 ≤ (i : Rat) / hues := by
    refine rat_cancel hpos ?_
    have e : (i : Rat) / hues * hues = i := by grind
    rw [e]
    have := (Rat.intCast_le_intCast (a := 0)).mpr i0
    have c0 : ((0 : Int) : Rat) = 0 := rfl
    grind
  have hbd := rat_mul_bound (x := D) (y := (i : Rat) / hues) (X := 16) (Y := 1) D1 D2 hb.1 hb.2
  have e1 : M - (M - D * ((i : Rat) / hues)) = D * ((i : Rat) / hues) := by grind
  have g1 : Gr 30 (D * ((i : Rat) / hues)) := gD.mul gI
  have hs := subX hm hc (g := 30) (by rw [e1]; exact g1) (by decide) (by rw [e1]; grind) (by rw [e1]; grind)
  rw [e1] at hs
  have e2 : D * ((i : Rat) / hues) / D = (i : Rat) / hues := by grind
  have hq := divX hs hd hD (g := 10) (by rw [e2]; exact gI) (by decide) (by rw [e2]; grind) (by rw [e2]; grind)
  rw [e2] at hq
  exact ⟨hq, gI, I0, hb.2⟩
theorem hue_exact {a : Nat} {hues : Int} (a10 : a ≤ 10) (hh : hues = ((2 ^ a : Nat) : Int)) {r g b mx rg : UInt64} {M D : Rat} {ir ig ib t : Int}
    (hr : Is r (M - D * ((ir : Rat) / hues))) (hg : Is g (M - D * ((ig : Rat) / hues))) (hb : Is b (M - D * ((ib : Rat) / hues))) (hm : Is mx M) (hd : Is rg D) (hD : D ≠ 0) (gD : Gr 20 D) (D1 : -16 ≤ D) (D2 : D ≤ 16)
    (r0 : 0 ≤ ir) (r1 : ir ≤ hues) (g0 : 0 ≤ ig) (g1 : ig ≤ hues) (b0 : 0 ≤ ib) (b1 : ib ≤ hues) (t0 : 0 ≤ t) (t1 : t < 2 * hues)
    (e1 : ir = 0 → ib - ig = 3 * t ∨ ib - ig = 3 * t - 6 * hues) (e2 : ir ≠ 0 → ig = 0 → 2 * hues + ir - ib = 3 * t ∨ 2 * hues + ir - ib = 3 * t - 6 * hues)
    (e3 : ir ≠ 0 → ig ≠ 0 → 4 * hues + ig - ir = 3 * t ∨ 4 * hues + ig - ir = 3 * t - 6 * hues) : Is (hueF r g b mx rg) ((t : Rat) / ((2 * hues : Int) : Rat)) := by
  have hp0 : 0 < hues := by rw [hh]; have := Nat.two_pow_pos a; (first | lia | omega)
  have hpos := cast_pos hp0
  obtain ⟨pr, gr, pr0, pr1⟩ := part_is a10 hh hr hm hd hD gD D1 D2 r0 r1
  obtain ⟨pg, gg, pg0, pg1⟩ := part_is a10 hh hg hm hd hD gD D1 D2 g0 g1
  obtain ⟨pb, gb, pb0, pb1⟩ := part_is a10 hh hb hm hd hD gD D1 D2 b0 b1
  have gi : ∀ n : Int, Gr 10 (n : Rat) := fun n => (Gr.int n).mono (by decide)
  have z : ∀ {c : UInt64} {i : Int}, Is c (M - D * ((i : Rat) / hues)) → ((Float64.cmp c mx == some .eq) = true ↔ i = 0) := fun {c i} hc => by
    rw [cmp_eqb hc hm]
    constructor
    · intro h
      have : D * ((i : Rat) / hues) = 0 := by grind
      rcases Rat.mul_eq_zero.mp this with h | h
      · exact absurd h hD
      · have e : (i : Rat) / hues * hues = i := by grind
        rw [h] at e
        exact Rat.intCast_inj.mp (by rw [← e]; show _ = (0 : Rat); grind)
    · rintro rfl
      show M - D * ((0 : Rat) / hues) = M
      grind
  show Is (modF (div _ _)) _
  by_cases h1 : ir = 0
  · rw [if_pos ((z hr).mpr h1)]
    refine hue_end a10 hh (N := ib - ig) ?_ t0 t1 (e1 h1)
    have e : ((ib - ig : Int) : Rat) / hues = (ib : Rat) / hues - (ig : Rat) / hues := by rw [Rat.intCast_sub]; grind
    rw [e]
    exact subX pb pg (gb.sub gg) (by decide) (by grind) (by grind)
  · rw [if_neg (fun h => h1 ((z hr).mp h))]
    by_cases h2 : ig = 0
    · rw [if_pos ((z hg).mpr h2)]
      refine hue_end a10 hh (N := 2 * hues + ir - ib) ?_ t0 t1 (e2 h1 h2)
      have e : ((2 * hues + ir - ib : Int) : Rat) / hues = 2 + (ir : Rat) / hues - (ib : Rat) / hues := by
        rw [Rat.intCast_sub, Rat.intCast_add, Rat.intCast_mul]; have : ((2 : Int) : Rat) = 2 := rfl; grind
      rw [e]
      have g2 : Gr 10 (2 + (ir : Rat) / hues) := (gi 2).add gr
      have s2 := addX is_2 pr g2 (by decide) (by grind) (by grind)
      exact subX s2 pb (g2.sub gb) (by decide) (by grind) (by grind)
    · rw [if_neg (fun h => h2 ((z hg).mp h))]
      refine hue_end a10 hh (N := 4 * hues + ig - ir) ?_ t0 t1 (e3 h1 h2)
      have e : ((4 * hues + ig - ir : Int) : Rat) / hues = 4 + (ig : Rat) / hues - (ir : Rat) / hues := by
        rw [Rat.intCast_sub, Rat.intCast_add, Rat.intCast_mul]; have : ((4 : Int) : Rat) = 4 := rfl; grind
      rw [e]
      have g2 : Gr 10 (4 + (ig : Rat) / hues) := (gi 4).add gg
      have s2 := addX is_4 pg g2 (by decide) (by grind) (by grind)
      exact subX s2 pr (g2.sub gr) (by decide) (by grind) (by grind)
end Mine
end
/- MyHsv8 -/
section
open PySem PySem.Float64
set_option maxRecDepth 100000
namespace Mine
theorem sign_of {x : UInt64} {p : Rat} {a : Bool} {m : Nat} {e : Int} (hx : Is x p) (hd : decode x = .fin a m e) (h0 : p ≠ 0) : a = decide (Float64.val x < 0) := by
  have hv : Float64.val x ≠ 0 := by
    intro h
    have := hx.val
    rw [h] at this
    exact h0 (zero_of_SC this.symm)
  have hs := val_sgn hd
  generalize (Float64.val x).natAbs = n at *
  generalize Float64.val x = v at *
  unfold sgn at hs
  cases a <;> simp at hs <;> simp <;> (first | lia | omega)
/-- a division of floats and one of ints, of one value, give the same bits -/
theorem div_fr {x y : UInt64} {p q : Rat} {a b : Int} (hx : Is x p) (hy : Is y q) (hp : p ≠ 0) (hq : q ≠ 0) (hb : b ≠ 0) (h : p * (b : Rat) = (a : Rat) * q) : div x y = fr a b := by
  obtain ⟨sx, m, e, hdx⟩ := hx.fin
  obtain ⟨sy, k, f, hdy⟩ := hy.fin
  have hvx : Float64.val x ≠ 0 := by
    intro h
    have := hx.val
    rw [h] at this
    exact hp (zero_of_SC this.symm)
  have hvy : Float64.val y ≠ 0 := by
    intro h
    have := hy.val
    rw [h] at this
    exact hq (zero_of_SC this.symm)
  have hk : k ≠ 0 := by
    rintro rfl
    apply hvy
    rw [val_eq hdy]; simp [sgn]
  have hr := div_right hdx hdy hk
  have hf : Right (fr a b) (decide (a < 0) != decide (b < 0)) (a.natAbs * 2 ^ 1074) b.natAbs :=
    ofFrac_right (by (first | lia | omega)) (by rfl) (by (first | lia | omega))
  have key : Float64.val x * b = a * Float64.val y := by
    refine Rat.intCast_inj.mp ?_
    rw [Rat.intCast_mul, Rat.intCast_mul, hx.val, hy.val]
    grind
  have hs : (sx != sy) = (decide (a < 0) != decide (b < 0)) := by
    rw [sign_of hx hdx hp, sign_of hy hdy hq]
    generalize Float64.val x = X at *
    generalize Float64.val y = Y at *
    have ha : a ≠ 0 := by
      rintro rfl
      rw [Int.zero_mul] at key
      rcases Int.mul_eq_zero.mp key with h | h
      · exact hvx h
      · exact hb h
    have s := congrArg Int.sign key
    rw [Int.sign_mul, Int.sign_mul] at s
    rcases Int.lt_or_gt_of_ne hvx with h1 | h1 <;> rcases Int.lt_or_gt_of_ne hvy with h2 | h2 <;> rcases Int.lt_or_gt_of_ne ha with h3 | h3 <;> rcases Int.lt_or_gt_of_ne hb with h4 | h4 <;>
      simp [Int.sign_eq_one_of_pos, Int.sign_eq_neg_one_of_neg, h1, h2, h3, h4] at s <;>
      ((first | rw [decide_eq_true h1] | rw [decide_eq_false (show ¬ X < 0 by (first | lia | omega))]); (first | rw [decide_eq_true h2] | rw [decide_eq_false (show ¬ Y < 0 by (first | lia | omega))]); (first | rw [decide_eq_true h3] | rw [decide_eq_false (show ¬ a < 0 by (first | lia | omega))]); (first | rw [decide_eq_true h4] | rw [decide_eq_false (show ¬ b < 0 by (first | lia | omega))]); first | done | rfl)
  rw [hs] at hr
  refine right_uniq hr hf (by (first | lia | omega)) (by (first | lia | omega)) ?_
  have := congrArg Int.natAbs key
  rw [Int.natAbs_mul, Int.natAbs_mul] at this
  generalize (2 : Nat) ^ 1074 = K
  calc (Float64.val x).natAbs * K * b.natAbs = ((Float64.val x).natAbs * b.natAbs) * K := by ac_rfl
    _ = _ := by rw [this]; ac_rfl
end Mine
end
/- MyHsv9 -/
section
open PySem PySem.Float64
set_option maxRecDepth 100000
namespace Mine
section
variable {a b : Nat} {turn share level hues parts : Int}
theorem mxmn {x y z : UInt64} {p q r hi lo : Rat} (hx : Is x p) (hy : Is y q) (hz : Is z r) (u1 : p ≤ hi) (u2 : q ≤ hi) (u3 : r ≤ hi) (uu : hi = p ∨ hi = q ∨ hi = r) (v1 : lo ≤ p) (v2 : lo ≤ q) (v3 : lo ≤ r) (vv : lo = p ∨ lo = q ∨ lo = r) :
    Is (max3 x y z) hi ∧ Is (min3 x y z) lo := by
  obtain ⟨m, hm, a1, a2, a3, a4⟩ := max3_is hx hy hz
  obtain ⟨n, hn, b1, b2, b3, b4⟩ := min3_is hx hy hz
  have e1 : hi = m := by grind
  have e2 : lo = n := by grind
  rw [e1, e2]; exact ⟨hm, hn⟩
def dV (share level parts : Int) : Rat := (level : Rat) / parts * ((share : Rat) / parts)
theorem cV_eq (share level hues parts fall : Int) : cV share level hues parts fall = (level : Rat) / parts - dV share level parts * ((fall : Rat) / hues) := by unfold cV dV; grind
theorem Tri.dV_gr (T : Tri a b turn share level hues parts) : Gr 20 (dV share level parts) ∧ -16 ≤ dV share level parts ∧ dV share level parts ≤ 16 ∧ dV share level parts * ((parts * parts : Int) : Rat) = ((share * level : Int) : Rat) := by
  obtain ⟨hS, gS, S1, S2⟩ := T.S
  obtain ⟨hL, gL, L1, L2⟩ := T.L
  have pb := T.parts_pos
  have ppos := cast_pos (show 0 < parts by (first | lia | omega))
  have p2 := rat_mul_bound (x := (level : Rat) / parts) (y := (share : Rat) / parts) (X := 4) (Y := 4) L1 L2 S1 S2
  refine ⟨gL.mul gS, by unfold dV; grind, by unfold dV; grind, ?_⟩
  unfold dV
  rw [Rat.intCast_mul, Rat.intCast_mul]
  have a1 : (level : Rat) / parts * parts = level := by grind
  have a2 : (share : Rat) / parts * parts = share := by grind
  generalize (level : Rat) / parts = x at *
  generalize (share : Rat) / parts = y at *
  rw [← a1, ← a2]; grind
theorem Tri.sign (T : Tri a b turn share level hues parts) : (share * level = 0 ↔ dV share level parts = 0) ∧ (0 < share * level ↔ 0 < dV share level parts) ∧ (share * level < 0 ↔ dV share level parts < 0) := by
  obtain ⟨_, _, _, he⟩ := T.dV_gr
  have pb := T.parts_pos
  have ppos := cast_pos (show 0 < parts * parts from Int.mul_pos (by (first | lia | omega)) (by (first | lia | omega)))
  generalize dV share level parts = d at *
  generalize share * level = n at *
  generalize ((parts * parts : Int) : Rat) = P at *
  have c0 : ((0 : Int) : Rat) = 0 := rfl
  refine ⟨?_, ?_, ?_⟩
  · rw [← Rat.intCast_inj, ← he, c0]
    constructor
    · intro h
      rcases Rat.mul_eq_zero.mp h with h | h
      · exact h
      · grind
    · intro h; rw [h]; grind
  · rw [← Rat.intCast_lt_intCast, ← he, c0]
    constructor
    · intro h; exact rat_lt_cancel ppos (by grind)
    · intro h; exact Rat.mul_pos h ppos
  · rw [← Rat.intCast_lt_intCast, ← he, c0]
    constructor
    · intro h; exact rat_lt_cancel ppos (by grind)
    · intro h; have := (Rat.mul_lt_mul_right ppos).mpr h; grind
theorem frac01 {i h : Int} (hh : 0 < h) (i0 : 0 ≤ i) (i1 : i ≤ h) : 0 ≤ (i : Rat) / h ∧ (i : Rat) / h ≤ 1 ∧ (i = 0 → (i : Rat) / h = 0) ∧ (i = h → (i : Rat) / h = 1) := by
  have hpos := cast_pos hh
  have e : (i : Rat) / h * h = i := by grind
  have c0 : ((0 : Int) : Rat) = 0 := rfl
  refine ⟨rat_cancel hpos ?_, rat_cancel hpos ?_, ?_, ?_⟩
  · rw [e]; have := (Rat.intCast_le_intCast (a := 0)).mpr i0; grind
  · rw [e, Rat.one_mul]; exact Rat.intCast_le_intCast.mpr i1
  · rintro rfl; rw [c0]; grind
  · rintro rfl; grind
/-- some fall is 0, some is whole -/
theorem fall_ends (turn : Int) {h : Int} (hh : 0 < h) : (fallI turn 0 h = 0 ∨ fallI turn (2 * h) h = 0 ∨ fallI turn (4 * h) h = 0) ∧ (fallI turn 0 h = h ∨ fallI turn (2 * h) h = h ∨ fallI turn (4 * h) h = h) := by
  obtain ⟨y, hy, y0, y1, k, k0, k5, k1, k2, hf⟩ := falls turn hh
  exact six_ends hf
theorem Tri.ends (T : Tri a b turn share level hues parts) (h0 : 0 ≤ turn) :
    (0 ≤ dV share level parts → Is (mxV turn share level hues parts) ((level : Rat) / parts) ∧ Is (mnV turn share level hues parts) ((level : Rat) / parts - dV share level parts)) ∧
    (dV share level parts ≤ 0 → Is (mxV turn share level hues parts) ((level : Rat) / parts - dV share level parts) ∧ Is (mnV turn share level hues parts) ((level : Rat) / parts)) := by
  have hb := T.hues_pos
  have hp0 : 0 < hues := by (first | lia | omega)
  have G := T.given h0
  have hr := G.r
  have hg := G.g
  have hbl := G.b
  rw [cV_eq] at hr hg hbl
  have br := fall_bounds turn 0 hp0
  have bg := fall_bounds turn (2 * hues) hp0
  have bb := fall_bounds turn (4 * hues) hp0
  obtain ⟨e0, e1⟩ := fall_ends turn hp0
  obtain ⟨r0, r1, r2, r3⟩ := frac01 hp0 br.1 br.2
  obtain ⟨g0, g1, g2, g3⟩ := frac01 hp0 bg.1 bg.2
  obtain ⟨b0, b1, b2, b3⟩ := frac01 hp0 bb.1 bb.2
  unfold mxV mnV
  generalize fallI turn 0 hues = ir at *
  generalize fallI turn (2 * hues) hues = ig at *
  generalize fallI turn (4 * hues) hues = ib at *
  generalize dV share level parts = d at *
  generalize (level : Rat) / parts = W at *
  have z0 : (ir : Rat) / hues = 0 ∨ (ig : Rat) / hues = 0 ∨ (ib : Rat) / hues = 0 := by
    rcases e0 with h | h | h
    · exact .inl (r2 h)
    · exact .inr (.inl (g2 h))
    · exact .inr (.inr (b2 h))
  have z1 : (ir : Rat) / hues = 1 ∨ (ig : Rat) / hues = 1 ∨ (ib : Rat) / hues = 1 := by
    rcases e1 with h | h | h
    · exact .inl (r3 h)
    · exact .inr (.inl (g3 h))
    · exact .inr (.inr (b3 h))
  clear r2 r3 g2 g3 b2 b3
  generalize (ir : Rat) / hues = R at *
  generalize (ig : Rat) / hues = GG at *
  generalize (ib : Rat) / hues = BB at *
  constructor
  · intro hd
    have q1 := Rat.mul_nonneg hd r0
    have q2 := Rat.mul_nonneg hd g0
    have q3 := Rat.mul_nonneg hd b0
    have q4 := Rat.mul_nonneg hd (show 0 ≤ 1 - R by grind)
    have q5 := Rat.mul_nonneg hd (show 0 ≤ 1 - GG by grind)
    have q6 := Rat.mul_nonneg hd (show 0 ≤ 1 - BB by grind)
    refine mxmn hr hg hbl (by grind) (by grind) (by grind) ?_ (by grind) (by grind) (by grind) ?_
    · rcases z0 with h | h | h <;> rw [h] <;> grind
    · rcases z1 with h | h | h <;> rw [h] <;> grind
  · intro hd
    have hd' : 0 ≤ -d := by grind
    have q1 := Rat.mul_nonneg hd' r0
    have q2 := Rat.mul_nonneg hd' g0
    have q3 := Rat.mul_nonneg hd' b0
    have q4 := Rat.mul_nonneg hd' (show 0 ≤ 1 - R by grind)
    have q5 := Rat.mul_nonneg hd' (show 0 ≤ 1 - GG by grind)
    have q6 := Rat.mul_nonneg hd' (show 0 ≤ 1 - BB by grind)
    refine mxmn hr hg hbl (by grind) (by grind) (by grind) ?_ (by grind) (by grind) (by grind) ?_
    · rcases z1 with h | h | h <;> rw [h] <;> grind
    · rcases z0 with h | h | h <;> rw [h] <;> grind
end
end Mine
end
/- MyHsvA -/
section
open PySem PySem.Float64
set_option maxRecDepth 100000
namespace Mine
section
variable {a b : Nat} {turn share level hues parts : Int}
theorem Tri.sharp (T : Tri a b turn share level hues parts) (h0 : 0 ≤ turn) : ∃ mx mn, Is (mxV turn share level hues parts) mx ∧ Is (mnV turn share level hues parts) mn ∧ Is (sub (mxV turn share level hues parts) (mnV turn share level hues parts)) (mx - mn) ∧
    ((0 ≤ dV share level parts → mx = (level : Rat) / parts ∧ mn = (level : Rat) / parts - dV share level parts) ∧ (dV share level parts ≤ 0 → mx = (level : Rat) / parts - dV share level parts ∧ mn = (level : Rat) / parts)) := by
  obtain ⟨gd, d1, d2, _⟩ := T.dV_gr
  obtain ⟨E1, E2⟩ := T.ends h0
  rcases (Rat.le_total : 0 ≤ dV share level parts ∨ dV share level parts ≤ 0) with h | h
  · obtain ⟨hm, hn⟩ := E1 h
    have e : (level : Rat) / parts - ((level : Rat) / parts - dV share level parts) = dV share level parts := by grind
    refine ⟨_, _, hm, hn, subX hm hn (g := 20) (by rw [e]; exact gd) (by decide) (by rw [e]; grind) (by rw [e]; grind), fun _ => ⟨rfl, rfl⟩, fun h' => ?_⟩
    constructor <;> grind
  · obtain ⟨hm, hn⟩ := E2 h
    have e : (level : Rat) / parts - dV share level parts - (level : Rat) / parts = 0 - dV share level parts := by grind
    have gi : Gr 0 (0 : Rat) := Gr.int 0
    refine ⟨_, _, hm, hn, subX hm hn (g := 20) (by rw [e]; exact (gi.mono (by decide)).sub gd) (by decide) (by rw [e]; grind) (by rw [e]; grind), fun h' => ?_, fun _ => ⟨rfl, rfl⟩⟩
    constructor <;> grind
theorem dm {x p : Rat} (hp : 0 < p) : x / p * p = x := by grind
theorem neg_div_neg {x p : Rat} : (-x) / (-p) = x / p := by grind
theorem ring1 {x y P : Rat} : (0 - x * y) * (y * P - P) = y * P * (x - x * y) := by grind
theorem ring2 {l s p : Rat} (hp : 0 < p) : l * (p - s) = l / p * (p * p) - s * l := by grind
theorem ne_false {b : Bool} (h : b = false) : ¬ b = true := by rw [h]; exact Bool.false_ne_true
theorem eq_false_of {b : Bool} (h : ¬ b = true) : b = false := by cases b <;> simp_all
theorem Tri.share_one (T : Tri a b turn share level hues parts) (hl : dV share level parts ≠ 0) : (level : Rat) / parts - dV share level parts = 0 ↔ share = parts := by
  have pb := T.parts_pos
  have ppos := cast_pos (show 0 < parts by (first | lia | omega))
  have e : (level : Rat) / parts - dV share level parts = (level : Rat) / parts * (1 - (share : Rat) / parts) := by unfold dV; grind
  have hW : (level : Rat) / parts ≠ 0 := by intro h; apply hl; unfold dV; rw [h]; grind
  have a2 : (share : Rat) / parts * parts = share := by grind
  rw [e]
  constructor
  · intro h
    rcases Rat.mul_eq_zero.mp h with h | h
    · exact absurd h hW
    · refine Rat.intCast_inj.mp ?_
      rw [← a2]
      have : (share : Rat) / parts = 1 := by grind
      rw [this]; grind
  · rintro rfl
    have : (share : Rat) / share = 1 := by grind
    rw [this]; grind
theorem Tri.valZ (T : Tri a b turn share level hues parts) (h0 : 0 ≤ turn) (hn : share * level < 0 → share ≠ parts) : ValZ turn share level hues parts := by
  obtain ⟨mx, mn, hm, hmn, hs, c1, c2⟩ := T.sharp h0
  have sg := T.sign
  have ce := cmp_eqb hmn hm
  refine ⟨fun h => eq_false_of fun hz => ?_, fun h => eq_false_of fun hz => ?_⟩
  · have := (isZero_iff hs).mp hz
    exact ne_false h (ce.mpr (by grind))
  · have h0 := (isZero_iff hm).mp hz
    have hne : mn ≠ mx := fun e => ne_false h (ce.mpr e)
    rcases (Rat.le_total : 0 ≤ dV share level parts ∨ dV share level parts ≤ 0) with hd | hd
    · have := c1 hd
      have hW : (level : Rat) / parts = 0 := by grind
      have : dV share level parts = 0 := by unfold dV; rw [hW]; grind
      grind
    · have cc := c2 hd
      by_cases hz : dV share level parts = 0
      · grind
      · have hlt : dV share level parts < 0 := by grind
        have h1 := (T.share_one hz).mp (by grind)
        exact hn (sg.2.2.mpr hlt) h1
theorem Tri.valNo (T : Tri a b turn share level hues parts) (h0 : 0 ≤ turn) (hs : share * level < 0) (hp : share = parts) : ValNo turn share level hues parts := by
  obtain ⟨mx, mn, hm, hmn, hs', c1, c2⟩ := T.sharp h0
  have sg := T.sign
  have hd := sg.2.2.mp hs
  have cc := c2 (by grind)
  have hz : dV share level parts ≠ 0 := by grind
  have h1 := (T.share_one hz).mpr hp
  refine ⟨eq_false_of fun h => ?_, (isZero_iff hm).mpr (by grind)⟩
  have := (cmp_eqb hmn hm).mp h
  grind
theorem third {r g b : Int} (h : r = 0 ∨ g = 0 ∨ b = 0) (e : r ≠ 0) (e' : g ≠ 0) : b = 0 := h.elim (fun x => absurd x e) fun h => h.elim (fun x => absurd x e') id
theorem subE {h r g b : Int} (f : r = h ∨ g = h ∨ b = h) : h - r = 0 ∨ h - g = 0 ∨ h - b = 0 := by
  rcases f with rfl | rfl | rfl <;> simp
theorem Tri.valOk (T : Tri a b turn share level hues parts) (h0 : 0 ≤ turn) : ValOk turn share level hues parts := by
  obtain ⟨mx, mn, hm, hmn, hs, c1, c2⟩ := T.sharp h0
  have sg := T.sign
  obtain ⟨hS, gS, S1, S2⟩ := T.S
  obtain ⟨hL, gL, L1, L2⟩ := T.L
  have hb := T.hues_pos
  have hp0 : 0 < hues := by (first | lia | omega)
  obtain ⟨gd, d1, d2, _⟩ := T.dV_gr
  refine ⟨fun h => ?_, fun h => ?_⟩
  · have hd := sg.1.mp h
    have cc := c1 (by grind)
    have ee : (Float64.cmp (mnV turn share level hues parts) (mxV turn share level hues parts) == some .eq) = true := (cmp_eqb hmn hm).mpr (by grind)
    have er : rV turn share level hues parts = (0, 0, mxV turn share level hues parts) := by
      show rgbhsvF _ _ _ = _
      unfold rgbhsvF; exact if_pos ee
    rw [er]
    exact ⟨(cmp_eq is_0 is_0).mpr rfl, (cmp_eq is_0 is_0).mpr rfl, (cmp_eq hm hL).mpr cc.1⟩
  · have hd := sg.2.1.mp h
    have cc := c1 (by grind)
    have ee : ¬ (Float64.cmp (mnV turn share level hues parts) (mxV turn share level hues parts) == some .eq) = true := fun h => by have := (cmp_eqb hmn hm).mp h; grind
    have er : rV turn share level hues parts = (hueF (gV turn share level hues parts).1 (gV turn share level hues parts).2.1 (gV turn share level hues parts).2.2 (mxV turn share level hues parts) (sub (mxV turn share level hues parts) (mnV turn share level hues parts)), div (sub (mxV turn share level hues parts) (mnV turn share level hues parts)) (mxV turn share level hues parts), mxV turn share level hues parts) := by
      show rgbhsvF _ _ _ = _
      unfold rgbhsvF; exact if_neg ee
    rw [er]
    have G := T.given h0
    have hr := G.r
    have hg := G.g
    have hbl := G.b
    rw [cV_eq] at hr hg hbl
    rw [cc.1] at hm
    have emm : mx - mn = dV share level parts := by grind
    rw [emm] at hs
    obtain ⟨y, k, z, hz, y0, y1, hy, k0, k5, k1, k2, hzz, m6, hI, hsf, gf, f0, f1, hf⟩ := T.sector h0
    have br := fall_bounds turn 0 hp0
    have bg := fall_bounds turn (2 * hues) hp0
    have bb := fall_bounds turn (4 * hues) hp0
    have W := wayP hf hp0
    have E := six_ends hf
    clear hf k1 k2 k0 k5
    have hue := hue_exact T.a10 T.hh hr hg hbl hm hs (by grind) gd d1 d2 br.1 br.2 bg.1 bg.2 bb.1 bb.2 (t := 2 * y) (by (first | lia | omega)) (by (first | lia | omega)) W.1 (fun _ => W.2.1) (fun e e' => W.2.2 (third E.1 e e'))
    have hW : (level : Rat) / parts ≠ 0 := by intro h; have : dV share level parts = 0 := by { unfold dV; rw [h]; grind }
                                              grind
    have eS : dV share level parts / ((level : Rat) / parts) = (share : Rat) / parts := by
      unfold dV
      generalize (level : Rat) / parts = x at *
      grind
    have hq := divX hs hm hW (g := 10) (by rw [eS]; exact gS) (by decide) (by rw [eS]; grind) (by rw [eS]; grind)
    rw [eS] at hq
    have hpos := cast_pos hp0
    have eY : ((2 * y : Int) : Rat) / ((2 * hues : Int) : Rat) = (y : Rat) / hues := by
      rw [Rat.intCast_mul, Rat.intCast_mul]; have : ((2 : Int) : Rat) = 2 := rfl; grind
    have yb := frac01 hp0 y0 (by (first | lia | omega))
    have hyI : Is (fr y hues) ((y : Rat) / hues) := frX (by (first | lia | omega)) (g := 10) (by rw [T.hh]; exact (Gr.div y a).mono T.a10) (by decide) (by grind) (by grind)
    rw [eY] at hue
    rw [hy] at hue hyI
    exact ⟨(cmp_eq hue hyI).mpr rfl, (cmp_eq hq hS).mpr rfl, (cmp_eq hm hL).mpr rfl⟩
theorem Tri.valNeg (T : Tri a b turn share level hues parts) (h0 : 0 ≤ turn) (hs : share * level < 0) (hn : share ≠ parts) : ValNeg turn share level hues parts := by
  obtain ⟨mx, mn, hm, hmn, hs', c1, c2⟩ := T.sharp h0
  have sg := T.sign
  have hd := sg.2.2.mp hs
  have cc := c2 (by grind)
  have hz : dV share level parts ≠ 0 := by grind
  obtain ⟨hS, gS, S1, S2⟩ := T.S
  obtain ⟨hL, gL, L1, L2⟩ := T.L
  have hb := T.hues_pos
  have pb := T.parts_pos
  have hp0 : 0 < hues := by (first | lia | omega)
  obtain ⟨gd, d1, d2, ed⟩ := T.dV_gr
  have ee : ¬ (Float64.cmp (mnV turn share level hues parts) (mxV turn share level hues parts) == some .eq) = true := fun h => by have := (cmp_eqb hmn hm).mp h; grind
  have er : rV turn share level hues parts = (hueF (gV turn share level hues parts).1 (gV turn share level hues parts).2.1 (gV turn share level hues parts).2.2 (mxV turn share level hues parts) (sub (mxV turn share level hues parts) (mnV turn share level hues parts)), div (sub (mxV turn share level hues parts) (mnV turn share level hues parts)) (mxV turn share level hues parts), mxV turn share level hues parts) := by
    show rgbhsvF _ _ _ = _
    unfold rgbhsvF; exact if_neg ee
  constructor
  rw [er]
  have G := T.given h0
  have hr := G.r
  have hg := G.g
  have hbl := G.b
  rw [cV_eq] at hr hg hbl
  rw [cc.1] at hm
  have emm : mx - mn = 0 - dV share level parts := by grind
  rw [emm] at hs'
  have hpos := cast_pos hp0
  have ppos := cast_pos (show 0 < parts by (first | lia | omega))
  have re : ∀ i : Int, (level : Rat) / parts - dV share level parts * ((i : Rat) / hues) = ((level : Rat) / parts - dV share level parts) - (0 - dV share level parts) * (((hues - i : Int) : Rat) / hues) := fun i => by
    rw [Rat.intCast_sub]
    generalize (level : Rat) / parts = W
    generalize dV share level parts = d
    grind
  rw [re] at hr hg hbl
  obtain ⟨y, k, z, hz', y0, y1, hy, k0, k5, k1, k2, hzz, m6, hI, hsf, gf, f0, f1, hf⟩ := T.sector h0
  have br := fall_bounds turn 0 hp0
  have bg := fall_bounds turn (2 * hues) hp0
  have bb := fall_bounds turn (4 * hues) hp0
  have gi : Gr 0 (0 : Rat) := Gr.int 0
  obtain ⟨t, ht, t0, t1, tt⟩ : ∃ t, t = (2 * turn + hues).fmod (2 * hues) ∧ 0 ≤ t ∧ t < 2 * hues ∧ ((2 * y < hues ∧ t = 2 * y + hues) ∨ (hues ≤ 2 * y ∧ t = 2 * y - hues)) := by
    by_cases hc : 2 * y < hues
    · have e : (2 * turn + hues).fmod (2 * hues) = 2 * y + hues := fmod_unique (z := z) (by subst hz'; rw [Int.mul_add, Int.mul_assoc]; (first | lia | omega)) (by (first | lia | omega)) (by (first | lia | omega))
      exact ⟨_, e.symm, by (first | lia | omega), by (first | lia | omega), .inl ⟨hc, rfl⟩⟩
    · have e : (2 * turn + hues).fmod (2 * hues) = 2 * y - hues := fmod_unique (z := z + 1) (by subst hz'; rw [Int.mul_add (2 * hues), Int.mul_add, Int.mul_assoc]; (first | lia | omega)) (by (first | lia | omega)) (by (first | lia | omega))
      exact ⟨_, e.symm, by (first | lia | omega), by (first | lia | omega), .inr ⟨by (first | lia | omega), rfl⟩⟩
  have W := wayN hf hp0 k2 tt
  have E := six_ends hf
  clear hf k0 k5 k1 k2
  have hue := hue_exact T.a10 T.hh hr hg hbl hm hs' (by grind) ((gi.mono (by decide)).sub gd) (by grind) (by grind) (by (first | lia | omega)) (by (first | lia | omega)) (by (first | lia | omega)) (by (first | lia | omega)) (by (first | lia | omega)) (by (first | lia | omega)) (t := t) t0 t1 W.1 (fun _ => W.2.1) (fun e e' => W.2.2 (third (subE E.2) e e'))
  clear hsf gf f0 f1 hI m6 hr hg hbl re tt
  have tb := frac01 (show 0 < 2 * hues by (first | lia | omega)) t0 (by (first | lia | omega))
  have htI : Is (fr t (2 * hues)) ((t : Rat) / ((2 * hues : Int) : Rat)) := by
    have e2 : 2 * hues = ((2 ^ (a + 1) : Nat) : Int) := by rw [T.hh, Nat.pow_succ]; (first | lia | omega)
    refine frX (by (first | lia | omega)) (g := 11) ?_ (by decide) (by grind) (by grind)
    rw [e2]; exact (Gr.div t (a + 1)).mono (by have := T.a10; (first | lia | omega))
  rw [ht] at hue htI
  refine ⟨(cmp_eq hue htI).mpr rfl, ?_, ?_⟩
  · have hq0 : (level : Rat) / parts - dV share level parts ≠ 0 := fun h => hn ((T.share_one hz).mp h)
    have e : div (sub (mxV turn share level hues parts) (mnV turn share level hues parts)) (mxV turn share level hues parts) = fr share (share - parts) := by
      refine div_fr hs' hm (by grind) hq0 (by (first | lia | omega)) ?_
      rw [Rat.intCast_sub]
      unfold dV
      have a2 : (share : Rat) / parts * parts = share := dm ppos
      generalize (level : Rat) / parts = x
      generalize (share : Rat) / parts = y at a2
      rw [← a2]; exact ring1
    rw [e]
    have hfin : ∃ q, Is (fr share (share - parts)) q := by
      have hne : share - parts ≠ 0 := by (first | lia | omega)
      have bnd : -((2 ^ 100 : Int) : Rat) ≤ (share : Rat) / ((share - parts : Int) : Rat) ∧ (share : Rat) / ((share - parts : Int) : Rat) ≤ ((2 ^ 100 : Int) : Rat) := by
        have s1 := T.s1
        have s2 := T.s2
        rcases Int.lt_or_gt_of_ne hne with h | h
        · have := div_bound (n := -share) (d := -(share - parts)) (B := 2 ^ 100) (by (first | lia | omega)) (by (first | lia | omega)) (by (first | lia | omega))
          rw [Rat.intCast_neg, Rat.intCast_neg] at this
          have e : (-(share : Rat)) / (-((share - parts : Int) : Rat)) = (share : Rat) / ((share - parts : Int) : Rat) := neg_div_neg
          rw [e] at this; exact this
        · exact div_bound (n := share) (d := share - parts) (B := 2 ^ 100) (by (first | lia | omega)) (by (first | lia | omega)) (by (first | lia | omega))
      obtain ⟨q, hq⟩ := fr_is (a := share) hne bnd.1 bnd.2
      exact ⟨q, hq.is⟩
    obtain ⟨q, hq⟩ := hfin
    exact (cmp_eq hq hq).mpr rfl
  · have e : ((level * (parts - share) : Int) : Rat) / ((parts * parts : Int) : Rat) = (level : Rat) / parts - dV share level parts := by
      have pp := cast_pos (show 0 < parts * parts from Int.mul_pos (by (first | lia | omega)) (by (first | lia | omega)))
      refine rat_eq_cancel pp ?_
      rw [rat_sub_mul, ed]
      have e1 : ((level * (parts - share) : Int) : Rat) / ((parts * parts : Int) : Rat) * ((parts * parts : Int) : Rat) = ((level * (parts - share) : Int) : Rat) := dm pp
      rw [e1]
      simp only [Rat.intCast_mul, Rat.intCast_sub]
      exact ring2 ppos
    have hl : Is (fr (level * (parts - share)) (parts * parts)) ((level : Rat) / parts - dV share level parts) := by
      rw [← e]
      refine frX (by have := Int.mul_pos (show 0 < parts by (first | lia | omega)) (show 0 < parts by (first | lia | omega)); (first | lia | omega)) (g := 20) ?_ (by decide) ?_ ?_
      · rw [e]; exact (gL.mono (by decide)).sub gd
      · rw [e]; grind
      · rw [e]; grind
    exact (cmp_eq hm hl).mpr rfl
end
end Mine
end
/- MyHls1 -/
section
open PySem PySem.Float64
set_option maxRecDepth 100000
namespace Mine
/-! sharp roundings of values that are not tiny -/
theorem rnd_sharp {r : UInt64} {E e B : Rat} (h : Rnd r E e) (b0 : 1 / 1048576 ≤ B) (b1 : -B ≤ E) (b2 : E ≤ B) : e - E ≤ B / 4500000000000000 ∧ E - e ≤ B / 4500000000000000 := by
  have := h.near B b1 b2
  have ti := inv_SC_le
  have tt : TINY ≤ 1 / 6000000000000000000000000000 := by decide +kernel
  constructor <;> grind
theorem big60 : (1000000 : Rat) ≤ ((2 ^ 100 : Int) : Rat) := by decide +kernel
theorem addN {x y : UInt64} {p q : Rat} (hx : Is x p) (hy : Is y q) (B : Rat) (b0 : 1 / 1048576 ≤ B) (b3 : B ≤ 1000000) (b1 : -B ≤ p + q) (b2 : p + q ≤ B) : ∃ e, Is (add x y) e ∧ e - (p + q) ≤ B / 4500000000000000 ∧ (p + q) - e ≤ B / 4500000000000000 := by
  have := big60
  obtain ⟨e, hr⟩ := add_is hx hy (by grind) (by grind)
  exact ⟨e, hr.is, rnd_sharp hr b0 b1 b2⟩
theorem subN {x y : UInt64} {p q : Rat} (hx : Is x p) (hy : Is y q) (B : Rat) (b0 : 1 / 1048576 ≤ B) (b3 : B ≤ 1000000) (b1 : -B ≤ p - q) (b2 : p - q ≤ B) : ∃ e, Is (sub x y) e ∧ e - (p - q) ≤ B / 4500000000000000 ∧ (p - q) - e ≤ B / 4500000000000000 := by
  have := big60
  obtain ⟨e, hr⟩ := sub_is hx hy (by grind) (by grind)
  exact ⟨e, hr.is, rnd_sharp hr b0 b1 b2⟩
theorem big2 : (1000000000000000 : Rat) ≤ ((2 ^ 100 : Int) : Rat) := by decide +kernel
theorem mulN {x y : UInt64} {p q : Rat} (hx : Is x p) (hy : Is y q) (B : Rat) (b0 : 1 / 1048576 ≤ B) (b3 : B ≤ 1000000000000000) (b1 : -B ≤ p * q) (b2 : p * q ≤ B) : ∃ e, Is (mul x y) e ∧ e - (p * q) ≤ B / 4500000000000000 ∧ (p * q) - e ≤ B / 4500000000000000 := by
  have := big2
  obtain ⟨e, hr⟩ := mul_is hx hy (by grind) (by grind)
  exact ⟨e, hr.is, rnd_sharp hr b0 b1 b2⟩
theorem divN {x y : UInt64} {p q : Rat} (hx : Is x p) (hy : Is y q) (hq : q ≠ 0) (B : Rat) (b0 : 1 / 1048576 ≤ B) (b3 : B ≤ 1000000) (b1 : -B ≤ p / q) (b2 : p / q ≤ B) : ∃ e, Is (div x y) e ∧ e - (p / q) ≤ B / 4500000000000000 ∧ (p / q) - e ≤ B / 4500000000000000 := by
  have := big60
  obtain ⟨e, hr⟩ := div_is hx hy hq (by grind) (by grind)
  exact ⟨e, hr.is, rnd_sharp hr b0 b1 b2⟩
/-- m1 + d * v * 6 -/
theorem lin_is {m1 dd v : UInt64} {M1 d V φ D : Rat} (h1 : Is m1 M1) (h2 : Is dd d) (h3 : Is v V) (d1 : -D ≤ d) (d2 : d ≤ D) (D1 : 1 / 524288 ≤ D) (D2 : D ≤ 40) (m0 : -24 ≤ M1) (m9 : M1 ≤ 24) (f0 : 0 ≤ φ) (f1 : φ ≤ 1)
    (e1 : 6 * V - φ ≤ 6 / 3800000000000) (e2 : φ - 6 * V ≤ 6 / 3800000000000) :
    ∃ R, Is (add m1 (mul (mul dd v) 4618441417868443648)) R ∧ R - (M1 + d * φ) ≤ D / 600000000000 + 1 / 30000000000000 ∧ (M1 + d * φ) - R ≤ D / 600000000000 + 1 / 30000000000000 := by
  have p1 := rat_mul_bound (x := d) (y := V) (X := D) (Y := 1 / 4) d1 d2 (by grind) (by grind)
  have p2 := rat_mul_bound (x := d) (y := 6 * V - φ) (X := D) (Y := 6 / 3800000000000) d1 d2 (by grind) (by grind)
  have p3 : d * (6 * V - φ) = d * V * 6 - d * φ := by grind
  have p4 : D * (6 / 3800000000000) = D * 6 / 3800000000000 := by grind
  have p5 : D * (1 / 4) = D / 4 := by grind
  rw [p3, p4] at p2
  rw [p5] at p1
  generalize hA : d * V = A at *
  generalize d * φ = C at *
  obtain ⟨x1, i1, a1, a2⟩ := mulN h2 h3 D (by grind) (by grind) (by grind) (by grind)
  rw [hA] at a1 a2
  obtain ⟨x2, i2, c1, c2⟩ := mulN i1 is_6 (2 * D) (by grind) (by grind) (by grind) (by grind)
  obtain ⟨x3, i3, g1, g2⟩ := addN h1 i2 128 (by grind) (by grind) (by grind) (by grind)
  exact ⟨x3, i3, by grind, by grind⟩
theorem cut_le {n m h : Int} {x C : Rat} (h4 : 4 ≤ h) (h5 : h ≤ 1024) (hx : x * ((6 * h : Int) : Rat) = n) (hC : C * ((6 * h : Int) : Rat) = m) (hlt : x - C ≤ 1 / 10000) : n ≤ m := by
  have hH : ((6 * h : Int) : Rat) ≤ ((6144 : Int) : Rat) := Rat.intCast_le_intCast.mpr (by (first | lia | omega))
  have hH0 := cast_pos (show 0 < 6 * h by (first | lia | omega))
  have c : ((6144 : Int) : Rat) = 6144 := rfl
  have g : (n : Rat) < ((m + 1 : Int) : Rat) := by
    rw [Rat.intCast_add]
    have c1 : ((1 : Int) : Rat) = 1 := rfl
    have := Rat.mul_le_mul_of_nonneg_right hlt (Rat.le_of_lt hH0)
    rw [← hx, ← hC, c1]
    generalize ((6 * h : Int) : Rat) = H at *
    grind
  have := Rat.intCast_lt_intCast.mp g
  (first | lia | omega)
def phiI (n h : Int) : Int := if n ≤ h then n else if n ≤ 3 * h then h else if n ≤ 4 * h then 4 * h - n else 0
theorem phi_core {turn n c h q : Int} (hh : 0 < h) (n0 : 0 ≤ n) (n1 : n ≤ 6 * h) (hq : (6 * turn).fmod (6 * h) - c = n - 2 * h + 6 * h * q) : phiI n h = h - fallI turn c h := by
  unfold phiI
  have hq1 : (6 * turn).fmod (6 * h) - c = -(2 * h - n) + 6 * h * q := by (first | lia | omega)
  have hq2 : (6 * turn).fmod (6 * h) - c = -(8 * h - n) + 6 * h * (q + 1) := by rw [hq, Int.mul_add]; (first | lia | omega)
  clear hq1
  by_cases c1 : n ≤ h
  · rw [if_pos c1, fall_mid (x := h - n) (far_off (r := 2 * h - n) (z := q) (by (first | lia | omega)) (by (first | lia | omega)) (by (first | lia | omega))) (by (first | lia | omega)) (by (first | lia | omega)) (by (first | lia | omega))]; (first | lia | omega)
  rw [if_neg c1]
  by_cases c2 : n ≤ 3 * h
  · rw [if_pos c2]
    by_cases c3 : n < 2 * h
    · rw [fall_lo (far_off (r := 2 * h - n) (z := q) (by (first | lia | omega)) (by (first | lia | omega)) (by (first | lia | omega))) hh (by (first | lia | omega))]; (first | lia | omega)
    · rw [fall_lo (far_at (r := n - 2 * h) (z := q) hq (by (first | lia | omega)) (by (first | lia | omega)) (by (first | lia | omega))) hh (by (first | lia | omega))]; (first | lia | omega)
  rw [if_neg c2]
  by_cases c4 : n ≤ 4 * h
  · rw [if_pos c4, fall_mid (x := n - 3 * h) (far_at (r := n - 2 * h) (z := q) hq (by (first | lia | omega)) (by (first | lia | omega)) (by (first | lia | omega))) (by (first | lia | omega)) (by (first | lia | omega)) (by (first | lia | omega))]; (first | lia | omega)
  rw [if_neg c4]
  by_cases c5 : n ≤ 5 * h
  · rw [fall_hi (far_at (r := n - 2 * h) (z := q) hq (by (first | lia | omega)) (by (first | lia | omega)) (by (first | lia | omega))) hh (by (first | lia | omega))]; (first | lia | omega)
  · rw [fall_hi (far_off (r := 8 * h - n) (z := q + 1) hq2 (by (first | lia | omega)) (by (first | lia | omega))) hh (by (first | lia | omega))]; (first | lia | omega)
theorem phi_fall {turn n k c h : Int} (hh : 0 < h) (n0 : 0 ≤ n) (n1 : n ≤ 6 * h) (hn : n = 6 * turn + 2 * c * h - 6 * h * k) :
    (c = 1 → phiI n h = h - fallI turn 0 h) ∧ (c = 0 → phiI n h = h - fallI turn (2 * h) h) ∧ (c = -1 → phiI n h = h - fallI turn (4 * h) h) := by
  obtain ⟨z, hz, _, _⟩ := fmod_split (6 * turn) (show 0 < 6 * h by (first | lia | omega))
  have e : 6 * h * (k - z) = 6 * h * k - 6 * h * z := Int.mul_sub ..
  refine ⟨?_, ?_, ?_⟩ <;> rintro rfl <;> refine phi_core (q := k - z) hh n0 n1 ?_ <;> (first | lia | omega)
end Mine
end
/- MyHls2 -/
section
open PySem PySem.Float64
set_option maxRecDepth 100000
namespace Mine
/-- one component of hls_to_rgb -/
theorem v_is {m1 m2 hue : UInt64} {M1 d D p X : Rat} {n0 hues : Int} (h1 : Is m1 M1) (h2 : Is m2 (M1 + d)) (hs : Is (sub m2 m1) d) (hp : Is hue p) (h4 : 4 ≤ hues) (h5 : hues ≤ 1024)
    (d1 : -D ≤ d) (d2 : d ≤ D) (D1 : 1 / 524288 ≤ D) (D2 : D ≤ 40) (m0 : -24 ≤ M1) (m9 : M1 ≤ 24)
    (hX : X * ((6 * hues : Int) : Rat) = n0) (e1 : p - X ≤ 1 / 4000000000000) (e2 : X - p ≤ 1 / 4000000000000) :
    ∃ (R φ : Rat) (n k : Int), Is (vF m1 m2 hue) R ∧ n = n0 - 6 * hues * k ∧ 0 ≤ n ∧ n ≤ 6 * hues ∧ φ * (hues : Rat) = (phiI n hues : Int) ∧ R - (M1 + d * φ) ≤ D / 600000000000 + 1 / 30000000000000 ∧ (M1 + d * φ) - R ≤ D / 600000000000 + 1 / 30000000000000 := by
  obtain ⟨u, k, hu, z0, z1, _, u1, u2⟩ := modF_is hp
  have hpos := cast_pos (show 0 < 6 * hues by (first | lia | omega))
  have hposh := cast_pos (show 0 < hues by (first | lia | omega))
  have c6 : ((6 * hues : Int) : Rat) = 6 * (hues : Rat) := by rw [Rat.intCast_mul]; rfl
  have hX' : (X - k) * ((6 * hues : Int) : Rat) = ((n0 - 6 * hues * k : Int) : Rat) := by
    rw [Rat.intCast_sub, Rat.intCast_mul (6 * hues), ← hX]; grind
  have C0 : (0 : Rat) * ((6 * hues : Int) : Rat) = ((0 : Int) : Rat) := by show _ = (0 : Rat); grind
  have C1 : (1 / 6 : Rat) * ((6 * hues : Int) : Rat) = (hues : Int) := by rw [c6]; grind
  have C3 : (1 / 2 : Rat) * ((6 * hues : Int) : Rat) = ((3 * hues : Int) : Rat) := by rw [c6, Rat.intCast_mul]; have : ((3 : Int) : Rat) = 3 := rfl; grind
  have C4 : (2 / 3 : Rat) * ((6 * hues : Int) : Rat) = ((4 * hues : Int) : Rat) := by rw [c6, Rat.intCast_mul]; have : ((4 : Int) : Rat) = 4 := rfl; grind
  have C6 : (1 : Rat) * ((6 * hues : Int) : Rat) = ((6 * hues : Int) : Rat) := by grind
  have n0' := cut_le h4 h5 C0 hX' (by grind)
  have n6' := cut_le h4 h5 hX' C6 (by grind)
  generalize hn : n0 - 6 * hues * k = n at *
  generalize hY : X - (k : Rat) = Y at *
  have v1 : u - Y ≤ 1 / 3900000000000 := by grind
  have v2 : Y - u ≤ 1 / 3900000000000 := by grind
  clear e1 e2 u1 u2 z0 z1 hX
  have tY : Y * 6 * (hues : Rat) = (n : Rat) := by rw [← hX', c6]; grind
  have fin : ∀ {R φ : Rat}, Is (vF m1 m2 hue) R → φ * (hues : Rat) = (phiI n hues : Int) → R - (M1 + d * φ) ≤ D / 600000000000 + 1 / 30000000000000 → (M1 + d * φ) - R ≤ D / 600000000000 + 1 / 30000000000000 →
      ∃ (R φ : Rat) (n' k : Int), Is (vF m1 m2 hue) R ∧ n' = n0 - 6 * hues * k ∧ 0 ≤ n' ∧ n' ≤ 6 * hues ∧ φ * (hues : Rat) = (phiI n' hues : Int) ∧ R - (M1 + d * φ) ≤ D / 600000000000 + 1 / 30000000000000 ∧ (M1 + d * φ) - R ≤ D / 600000000000 + 1 / 30000000000000 :=
    fun {R φ} a b c e => ⟨R, φ, n, k, a, hn.symm, n0', n6', b, c, e⟩
  have hvF : vF m1 m2 hue = if (Float64.cmp (modF hue) 4595172819793696085 == some .lt) = true then add m1 (mul (mul (sub m2 m1) (modF hue)) 4618441417868443648)
      else if (Float64.cmp (modF hue) 4602678819172646912 == some .lt) = true then m2
      else if (Float64.cmp (modF hue) 4604180019048437077 == some .lt) = true then add m1 (mul (mul (sub m2 m1) (sub 4604180019048437077 (modF hue))) 4618441417868443648) else m1 := rfl
  have s6 := cmp_lt hu is_sixth
  have s2 := cmp_lt hu is_half
  have s3 := cmp_lt hu is_twothird
  by_cases b1 : u < 6004799503160661 / 36028797018963968
  · rw [if_pos (s6.mpr b1)] at hvF
    have nle := cut_le h4 h5 hX' C1 (by grind)
    have ephi : phiI n hues = n := by unfold phiI; rw [if_pos nle]
    have fb := frac01 (show 0 < hues by (first | lia | omega)) n0' nle
    have ey : (n : Rat) / hues = 6 * Y := by rw [← tY]; grind
    obtain ⟨R, hR, r1, r2⟩ := lin_is (φ := (n : Rat) / hues) h1 hs hu d1 d2 D1 D2 m0 m9 fb.1 fb.2.1 (by rw [ey]; grind) (by rw [ey]; grind)
    rw [← hvF] at hR
    exact fin hR (by rw [ephi]; exact dm hposh) r1 r2
  · rw [if_neg (fun h => b1 (s6.mp h))] at hvF
    have nge := cut_le h4 h5 C1 hX' (by grind)
    by_cases b2 : u < 1 / 2
    · rw [if_pos (s2.mpr b2)] at hvF
      have nle := cut_le h4 h5 hX' C3 (by grind)
      have ephi : phiI n hues = hues := by unfold phiI; (repeat' split) <;> (first | lia | omega)
      refine fin (R := M1 + d) (φ := 1) (by rw [hvF]; exact h2) (by rw [ephi]; grind) (by grind) (by grind)
    · rw [if_neg (fun h => b2 (s2.mp h))] at hvF
      have nge3 := cut_le h4 h5 C3 hX' (by grind)
      by_cases b3 : u < 6004799503160661 / 9007199254740992
      · rw [if_pos (s3.mpr b3)] at hvF
        have nle := cut_le h4 h5 hX' C4 (by grind)
        have ephi : phiI n hues = 4 * hues - n := by unfold phiI; (repeat' split) <;> (first | lia | omega)
        have fb := frac01 (show 0 < hues by (first | lia | omega)) (show 0 ≤ 4 * hues - n by (first | lia | omega)) (by (first | lia | omega))
        obtain ⟨v, hv, w1, w2⟩ := subN is_twothird hu 1 (by grind) (by grind) (by grind) (by grind)
        have ey : ((4 * hues - n : Int) : Rat) / hues = 4 - 6 * Y := by
          rw [Rat.intCast_sub, Rat.intCast_mul, ← tY]
          have : ((4 : Int) : Rat) = 4 := rfl
          grind
        obtain ⟨R, hR, r1, r2⟩ := lin_is (φ := ((4 * hues - n : Int) : Rat) / hues) h1 hs hv d1 d2 D1 D2 m0 m9 fb.1 fb.2.1 (by rw [ey]; grind) (by rw [ey]; grind)
        rw [← hvF] at hR
        exact fin hR (by rw [ephi]; exact dm hposh) r1 r2
      · rw [if_neg (fun h => b3 (s3.mp h))] at hvF
        have nge4 := cut_le h4 h5 C4 hX' (by grind)
        have ephi : phiI n hues = 0 := by unfold phiI; (repeat' split) <;> (first | lia | omega)
        refine fin (R := M1) (φ := 0) (by rw [hvF]; exact h1) (by rw [ephi]; show (0 : Rat) * _ = 0; grind) (by grind) (by grind)
end Mine
end
/- MyHls3 -/
section
open PySem PySem.Float64
set_option maxRecDepth 100000
namespace Mine
section
variable {a b : Nat} {turn share level hues parts sw : Int}
/-- the swing of hls -/
def Sw (share level parts sw : Int) : Prop := (2 * level ≤ parts ∧ sw = share * level) ∨ (parts < 2 * level ∧ sw = share * (parts - level))
def wL (parts sw : Int) : Rat := (sw : Rat) / ((parts * parts : Int) : Rat)
theorem ring3 {l s p : Rat} (hp : 0 < p) : s * l / (p * p) = l / p * (s / p) := by grind
theorem ring4 {l s p : Rat} (hp : 0 < p) : s * (p - l) / (p * p) = s / p * (1 - l / p) := by grind
theorem Tri.half (T : Tri a b turn share level hues parts) : (level : Rat) / parts ≤ 1 / 2 ↔ 2 * level ≤ parts := by
  have pb := T.parts_pos
  have ppos := cast_pos (show 0 < parts by (first | lia | omega))
  have e : (level : Rat) / parts * parts = level := dm ppos
  have c2 : ((2 : Int) : Rat) = 2 := rfl
  constructor
  · intro h
    refine Rat.intCast_le_intCast.mp ?_
    rw [Rat.intCast_mul, ← e, c2]
    have := Rat.mul_le_mul_of_nonneg_right h (Rat.le_of_lt ppos)
    grind
  · intro h
    have := Rat.intCast_le_intCast.mpr h
    rw [Rat.intCast_mul, c2, ← e] at this
    refine rat_cancel ppos ?_
    grind
theorem Tri.wS (T : Tri a b turn share level hues parts) (hsw : Sw share level parts sw) :
    (((level : Rat) / parts ≤ 1 / 2 ∧ wL parts sw = (level : Rat) / parts * ((share : Rat) / parts)) ∨ (1 / 2 < (level : Rat) / parts ∧ wL parts sw = (share : Rat) / parts * (1 - (level : Rat) / parts))) ∧
    Gr 20 (wL parts sw) ∧ -20 ≤ wL parts sw ∧ wL parts sw ≤ 20 ∧ wL parts sw * ((parts * parts : Int) : Rat) = sw := by
  have pb := T.parts_pos
  have ppos := cast_pos (show 0 < parts by (first | lia | omega))
  have pp := cast_pos (show 0 < parts * parts from Int.mul_pos (by (first | lia | omega)) (by (first | lia | omega)))
  obtain ⟨hS, gS, S1, S2⟩ := T.S
  obtain ⟨hL, gL, L1, L2⟩ := T.L
  have gi : Gr 10 (1 : Rat) := (Gr.int 1).mono (by decide)
  have hh := T.half
  rcases hsw with ⟨h, e⟩ | ⟨h, e⟩
  · have ew : wL parts sw = (level : Rat) / parts * ((share : Rat) / parts) := by
      unfold wL; rw [e, Rat.intCast_mul, Rat.intCast_mul]; exact ring3 ppos
    have p2 := rat_mul_bound (x := (level : Rat) / parts) (y := (share : Rat) / parts) (X := 4) (Y := 4) L1 L2 S1 S2
    refine ⟨.inl ⟨hh.mpr h, ew⟩, by rw [ew]; exact gL.mul gS, by rw [ew]; grind, by rw [ew]; grind, dm pp⟩
  · have ew : wL parts sw = (share : Rat) / parts * (1 - (level : Rat) / parts) := by
      unfold wL; rw [e, Rat.intCast_mul, Rat.intCast_mul, Rat.intCast_sub]; exact ring4 ppos
    have p2 := rat_mul_bound (x := (share : Rat) / parts) (y := 1 - (level : Rat) / parts) (X := 4) (Y := 5) S1 S2 (by grind) (by grind)
    refine ⟨.inr ⟨?_, ew⟩, by rw [ew]; exact gS.mul (gi.sub gL), by rw [ew]; grind, by rw [ew]; grind, dm pp⟩
    have : ¬ (level : Rat) / parts ≤ 1 / 2 := fun q => by have := hh.mp q; (first | lia | omega)
    grind
theorem low_iff {x : UInt64} {p : Rat} (hx : Is x p) : (Float64.cmp x 4602678819172646912 == some .lt || Float64.cmp x 4602678819172646912 == some .eq) = true ↔ p ≤ 1 / 2 := by
  rw [Bool.or_eq_true, cmp_lt hx is_half, cmp_eqb hx is_half]
  constructor
  · intro h; grind
  · intro h; grind
theorem Tri.mm (T : Tri a b turn share level hues parts) (hsw : Sw share level parts sw) :
    Is (m1F (fr level parts) (fr share parts)) ((level : Rat) / parts - wL parts sw) ∧ Is (m2F (fr level parts) (fr share parts)) ((level : Rat) / parts - wL parts sw + 2 * wL parts sw) ∧
    Is (sub (m2F (fr level parts) (fr share parts)) (m1F (fr level parts) (fr share parts))) (2 * wL parts sw) := by
  obtain ⟨hS, gS, S1, S2⟩ := T.S
  obtain ⟨hL, gL, L1, L2⟩ := T.L
  obtain ⟨hc, gw, w1, w2, _⟩ := T.wS hsw
  have gi : Gr 10 (1 : Rat) := (Gr.int 1).mono (by decide)
  have g2 : Gr 0 (2 : Rat) := Gr.int 2
  have m2 : Is (m2F (fr level parts) (fr share parts)) ((level : Rat) / parts - wL parts sw + 2 * wL parts sw) := by
    unfold m2F
    generalize (level : Rat) / parts = x at *
    generalize (share : Rat) / parts = y at *
    generalize wL parts sw = W at *
    rcases hc with ⟨h, e⟩ | ⟨h, e⟩
    · rw [if_pos ((low_iff hL).mpr h)]
      have s1 := addX is_1 hS (gi.add gS) (by decide) (by grind) (by grind)
      have e2 : x * (1 + y) = x - W + 2 * W := by rw [e]; grind
      have := mulX hL s1 (gL.mul (gi.add gS)) (by decide) (by rw [e2]; grind) (by rw [e2]; grind)
      rw [e2] at this; exact this
    · rw [if_neg (fun q => by have := (low_iff hL).mp q; grind)]
      have s1 := addX hL hS (gL.add gS) (by decide) (by grind) (by grind)
      have pb := rat_mul_bound (x := x) (y := y) (X := 4) (Y := 4) L1 L2 S1 S2
      have s2 := mulX hL hS (gL.mul gS) (by decide) (by grind) (by grind)
      have e2 : x + y - x * y = x - W + 2 * W := by rw [e]; grind
      have := subX s1 s2 (((gL.add gS).mono (j := 20) (by decide)).sub (gL.mul gS)) (by decide) (by rw [e2]; grind) (by rw [e2]; grind)
      rw [e2] at this; exact this
  have m1 : Is (m1F (fr level parts) (fr share parts)) ((level : Rat) / parts - wL parts sw) := by
    unfold m1F
    have s1 := mulX is_2 hL ((g2.mul gL).mono (j := 20) (by decide)) (by decide) (by grind) (by grind)
    have e : 2 * ((level : Rat) / parts) - ((level : Rat) / parts - wL parts sw + 2 * wL parts sw) = (level : Rat) / parts - wL parts sw := by grind
    have := subX s1 m2 (g := 20) (by rw [e]; exact (gL.mono (by decide)).sub gw) (by decide) (by rw [e]; grind) (by rw [e]; grind)
    rw [e] at this; exact this
  refine ⟨m1, m2, ?_⟩
  have e : (level : Rat) / parts - wL parts sw + 2 * wL parts sw - ((level : Rat) / parts - wL parts sw) = 2 * wL parts sw := by grind
  have := subX m2 m1 (g := 20) (by rw [e]; exact (g2.mul gw).mono (by decide)) (by decide) (by rw [e]; grind) (by rw [e]; grind)
  rw [e] at this; exact this
theorem Tri.w_min (T : Tri a b turn share level hues parts) (hsw : Sw share level parts sw) : (0 < sw → 0 < wL parts sw ∧ 1 / 1048576 ≤ wL parts sw) ∧ (sw < 0 → wL parts sw < 0 ∧ 1 / 1048576 ≤ -wL parts sw) ∧ (sw = 0 → wL parts sw = 0) := by
  obtain ⟨hc, gw, w1, w2, ew⟩ := T.wS hsw
  have pb := T.parts_pos
  have pp := cast_pos (show 0 < parts * parts from Int.mul_pos (by (first | lia | omega)) (by (first | lia | omega)))
  have hle : parts * parts ≤ 1048576 := Int.le_trans (Int.mul_le_mul_of_nonneg_left (show parts ≤ 1024 by (first | lia | omega)) (by (first | lia | omega))) (by (first | lia | omega))
  have hler := Rat.intCast_le_intCast.mpr hle
  have cm : ((1048576 : Int) : Rat) = 1048576 := rfl
  rw [cm] at hler
  have c0 : ((0 : Int) : Rat) = 0 := rfl
  have c1 : ((1 : Int) : Rat) = 1 := rfl
  clear hc gw w1 w2
  generalize wL parts sw = W at *
  generalize ((parts * parts : Int) : Rat) = P at *
  refine ⟨fun h => ?_, fun h => ?_, fun h => ?_⟩
  · have h1 := Rat.intCast_le_intCast.mpr (show 1 ≤ sw by (first | lia | omega))
    rw [c1, ← ew] at h1
    have hw : 0 < W := rat_lt_cancel pp (by grind)
    refine ⟨hw, ?_⟩
    have := Rat.mul_le_mul_of_nonneg_left hler (Rat.le_of_lt hw)
    grind
  · have h1 := Rat.intCast_le_intCast.mpr (show 1 ≤ -sw by (first | lia | omega))
    rw [c1, Rat.intCast_neg, ← ew] at h1
    have hw : 0 < -W := rat_lt_cancel pp (by grind)
    refine ⟨by grind, ?_⟩
    have := Rat.mul_le_mul_of_nonneg_left hler (Rat.le_of_lt hw)
    grind
  · rw [h, c0] at ew
    rcases Rat.mul_eq_zero.mp ew with h | h
    · exact h
    · grind
/-- the three hues -/
theorem Tri.hues3 (T : Tri a b turn share level hues parts) :
    (∃ p X, Is (add (fr turn hues) 4599676419421066581) p ∧ X * ((6 * hues : Int) : Rat) = ((6 * turn + 2 * 1 * hues : Int) : Rat) ∧ p - X ≤ 1 / 4000000000000 ∧ X - p ≤ 1 / 4000000000000) ∧
    (∃ p X, Is (fr turn hues) p ∧ X * ((6 * hues : Int) : Rat) = ((6 * turn + 2 * 0 * hues : Int) : Rat) ∧ p - X ≤ 1 / 4000000000000 ∧ X - p ≤ 1 / 4000000000000) ∧
    (∃ p X, Is (sub (fr turn hues) 4599676419421066581) p ∧ X * ((6 * hues : Int) : Rat) = ((6 * turn + 2 * (-1) * hues : Int) : Rat) ∧ p - X ≤ 1 / 4000000000000 ∧ X - p ≤ 1 / 4000000000000) := by
  obtain ⟨hH, _, H1, H2⟩ := T.H
  have hb := T.hues_pos
  have hpos := cast_pos (show 0 < hues by (first | lia | omega))
  have e : (turn : Rat) / hues * hues = turn := dm hpos
  have c6 : ((6 : Int) : Rat) = 6 := rfl
  have c2 : ((2 : Int) : Rat) = 2 := rfl
  have c0 : ((0 : Int) : Rat) = 0 := rfl
  have c1 : ((1 : Int) : Rat) = 1 := rfl
  have cm : ((-1 : Int) : Rat) = -1 := rfl
  refine ⟨?_, ?_, ?_⟩
  · obtain ⟨p, hp, p1, p2⟩ := addN hH is_third 1025 (by grind) (by grind) (by grind) (by grind)
    refine ⟨p, (turn : Rat) / hues + 1 / 3, hp, ?_, by grind, by grind⟩
    simp only [Rat.intCast_add, Rat.intCast_mul, c6, c2, c1]
    rw [← e]; generalize (turn : Rat) / hues = x; grind
  · refine ⟨_, (turn : Rat) / hues, hH, ?_, by grind, by grind⟩
    simp only [Rat.intCast_add, Rat.intCast_mul, c6, c2, c0]
    rw [← e]; generalize (turn : Rat) / hues = x at *; grind
  · obtain ⟨p, hp, p1, p2⟩ := subN hH is_third 1025 (by grind) (by grind) (by grind) (by grind)
    refine ⟨p, (turn : Rat) / hues - 1 / 3, hp, ?_, by grind, by grind⟩
    simp only [Rat.intCast_add, Rat.intCast_mul, c6, c2, cm]
    rw [← e]; generalize (turn : Rat) / hues = x; grind
end
end Mine
end
/- MyHls4 -/
section
open PySem PySem.Float64
set_option maxRecDepth 100000
namespace Mine
/-- e is E, but for B -/
structure Nr (e E B : Rat) : Prop where
  u : e - E ≤ B
  l : E - e ≤ B
section
variable {a b : Nat} {turn share level hues parts sw : Int}
theorem Tri.comp1 (T : Tri a b turn share level hues parts) (hsw : Sw share level parts sw) {D : Rat} (hD : (D = 2 * wL parts sw ∧ 0 < wL parts sw) ∨ (D = -(2 * wL parts sw) ∧ wL parts sw < 0)) (D1 : 1 / 524288 ≤ D)
    {hue : UInt64} {p X : Rat} {c fall : Int} (hp : Is hue p) (hX : X * ((6 * hues : Int) : Rat) = ((6 * turn + 2 * c * hues : Int) : Rat)) (e1 : p - X ≤ 1 / 4000000000000) (e2 : X - p ≤ 1 / 4000000000000)
    (hc : (c = 1 ∧ fall = fallI turn 0 hues) ∨ (c = 0 ∧ fall = fallI turn (2 * hues) hues) ∨ (c = -1 ∧ fall = fallI turn (4 * hues) hues)) :
    ∃ R, Is (vF (m1F (fr level parts) (fr share parts)) (m2F (fr level parts) (fr share parts)) hue) R ∧
      Nr R ((level : Rat) / parts - wL parts sw + 2 * wL parts sw * (1 - (fall : Rat) / hues)) (D / 600000000000 + 1 / 30000000000000) := by
  obtain ⟨m1, m2, ms⟩ := T.mm hsw
  obtain ⟨_, _, w1, w2, _⟩ := T.wS hsw
  obtain ⟨_, _, L1, L2⟩ := T.L
  have hb := T.hues_pos
  have hpos := cast_pos (show 0 < hues by (first | lia | omega))
  obtain ⟨R, φ, n, k, hR, hn, n0, n1, hφ, r1, r2⟩ := v_is m1 m2 ms hp hb.1 hb.2 (D := D) (by grind) (by grind) D1 (by grind) (by grind) (by grind) hX e1 e2
  have pf := phi_fall (c := c) (show 0 < hues by (first | lia | omega)) n0 n1 hn
  have ef : phiI n hues = hues - fall := by
    rcases hc with ⟨h1, h2⟩ | ⟨h1, h2⟩ | ⟨h1, h2⟩
    · rw [h2]; exact pf.1 h1
    · rw [h2]; exact pf.2.1 h1
    · rw [h2]; exact pf.2.2 h1
  have eφ : φ = 1 - (fall : Rat) / hues := by
    refine rat_eq_cancel hpos ?_
    rw [hφ, ef, Rat.intCast_sub, rat_sub_mul, dm hpos]; grind
  rw [eφ] at r1 r2
  exact ⟨R, hR, r1, r2⟩
theorem Tri.comps (T : Tri a b turn share level hues parts) (hsw : Sw share level parts sw) {D : Rat} (hD : (D = 2 * wL parts sw ∧ 0 < wL parts sw) ∨ (D = -(2 * wL parts sw) ∧ wL parts sw < 0)) (D1 : 1 / 524288 ≤ D) :
    ∃ R G B, Is3 (gL turn share level hues parts) R G B ∧
      Nr R ((level : Rat) / parts - wL parts sw + 2 * wL parts sw * (1 - (fallI turn 0 hues : Rat) / hues)) (D / 600000000000 + 1 / 30000000000000) ∧
      Nr G ((level : Rat) / parts - wL parts sw + 2 * wL parts sw * (1 - (fallI turn (2 * hues) hues : Rat) / hues)) (D / 600000000000 + 1 / 30000000000000) ∧
      Nr B ((level : Rat) / parts - wL parts sw + 2 * wL parts sw * (1 - (fallI turn (4 * hues) hues : Rat) / hues)) (D / 600000000000 + 1 / 30000000000000) := by
  obtain ⟨⟨pr, Xr, hr, xr, r1, r2⟩, ⟨pg, Xg, hg, xg, g1, g2⟩, ⟨pb, Xb, hbl, xb, b1, b2⟩⟩ := T.hues3
  obtain ⟨R, hR, nR⟩ := T.comp1 hsw hD D1 hr xr r1 r2 (.inl ⟨rfl, rfl⟩)
  obtain ⟨G, hG, nG⟩ := T.comp1 hsw hD D1 hg xg g1 g2 (.inr (.inl ⟨rfl, rfl⟩))
  obtain ⟨B, hB, nB⟩ := T.comp1 hsw hD D1 hbl xb b1 b2 (.inr (.inr ⟨rfl, rfl⟩))
  obtain ⟨hS, gS, S1, S2⟩ := T.S
  obtain ⟨hc, _⟩ := T.wS hsw
  have hs0 : (share : Rat) / parts ≠ 0 := by
    intro h
    rw [h] at hc
    have : wL parts sw = 0 := by
      rcases hc with ⟨_, e⟩ | ⟨_, e⟩ <;> rw [e] <;> grind
    grind
  have eg : gL turn share level hues parts = (vF (m1F (fr level parts) (fr share parts)) (m2F (fr level parts) (fr share parts)) (add (fr turn hues) 4599676419421066581), vF (m1F (fr level parts) (fr share parts)) (m2F (fr level parts) (fr share parts)) (fr turn hues), vF (m1F (fr level parts) (fr share parts)) (m2F (fr level parts) (fr share parts)) (sub (fr turn hues) 4599676419421066581)) := by
    unfold gL hlsF
    exact if_neg (fun h => hs0 ((cmp_eqb hS is_0).mp h))
  refine ⟨R, G, B, ?_, nR, nG, nB⟩
  rw [eg]
  exact ⟨hR, hG, hB⟩
theorem rnd_is {x : UInt64} {q E e : Rat} {m : Int} {N : Int} (hx : Is x q) (hn : Nr q E e) (m0 : 0 < m) (m1 : m ≤ 1073741824) (q1 : -128 ≤ q) (q2 : q ≤ 128) (hE : E * (m : Rat) = (N : Rat)) (he : e * (m : Rat) ≤ 2 / 5) :
    Float64.isFinite (Float64.mul x (Float64.ofInt m)) = true ∧ rnd x m = N := by
  have hm := ofInt_is (i := m) (by (first | lia | omega))
  have mp := cast_pos m0
  have mle := Rat.intCast_le_intCast.mpr m1
  have cm : ((1073741824 : Int) : Rat) = 1073741824 := rfl
  rw [cm] at mle
  have pb := rat_mul_bound (x := q) (y := (m : Rat)) (X := 128) (Y := 1073741824) q1 q2 (by grind) mle
  obtain ⟨y, hy, y1, y2⟩ := mulN hx hm 137438953472 (by grind) (by grind) (by grind) (by grind)
  refine ⟨isFinite_of hy, ?_⟩
  have k1 := Rat.mul_le_mul_of_nonneg_right hn.u (Rat.le_of_lt mp)
  have k2 := Rat.mul_le_mul_of_nonneg_right hn.l (Rat.le_of_lt mp)
  rw [rat_sub_mul, hE] at k1 k2
  unfold rnd
  generalize q * (m : Rat) = Q at *
  generalize e * (m : Rat) = ee at *
  refine near_is hy ?_ ?_ <;> grind
theorem ring5 {l w s p h f : Rat} (hp : 0 < p) (hh : 0 < h) (hw : w * (p * p) = s) : (l / p - w + 2 * w * (1 - f / h)) * (p * p * h) = l * p * h + s * (h - 2 * f) := by
  have e1 : l / p * p = l := dm hp
  have e2 : f / h * h = f := dm hh
  generalize l / p = x at *
  generalize f / h = y at *
  rw [← e1, ← e2, ← hw]; grind
theorem Tri.round1 (T : Tri a b turn share level hues parts) (hsw : Sw share level parts sw) {D : Rat} (D0 : 0 ≤ D) (D2 : D ≤ 40) {x : UInt64} {R : Rat} (c : Int) (hx : Is x R)
    (n : Nr R ((level : Rat) / parts - wL parts sw + 2 * wL parts sw * (1 - (fallI turn c hues : Rat) / hues)) (D / 600000000000 + 1 / 30000000000000)) :
    Float64.isFinite (Float64.mul x (Float64.ofInt (parts * parts * hues))) = true ∧ rnd x (parts * parts * hues) = level * parts * hues + sw * tiltI turn c hues := by
  obtain ⟨_, _, w1, w2, ew⟩ := T.wS hsw
  obtain ⟨_, _, L1, L2⟩ := T.L
  have hb := T.hues_pos
  have pb := T.parts_pos
  have hpos := cast_pos (show 0 < hues by (first | lia | omega))
  have ppos := cast_pos (show 0 < parts by (first | lia | omega))
  have fb := fall_bounds turn c (show 0 < hues by (first | lia | omega))
  have ff := frac01 (show 0 < hues by (first | lia | omega)) fb.1 fb.2
  have hbd := rat_mul_bound (x := 2 * wL parts sw) (y := 1 - (fallI turn c hues : Rat) / hues) (X := 40) (Y := 1) (by grind) (by grind) (by grind) (by grind)
  have hq1 : parts * parts ≤ 1048576 := Int.le_trans (Int.mul_le_mul_of_nonneg_left (show parts ≤ 1024 by (first | lia | omega)) (by (first | lia | omega))) (by (first | lia | omega))
  have hq0 : 0 < parts * parts := Int.mul_pos (by (first | lia | omega)) (by (first | lia | omega))
  have hm1 : parts * parts * hues ≤ 1073741824 := Int.le_trans (Int.mul_le_mul_of_nonneg_left (show hues ≤ 1024 by (first | lia | omega)) (by (first | lia | omega))) (by (first | lia | omega))
  have hm0 : 0 < parts * parts * hues := Int.mul_pos hq0 (by (first | lia | omega))
  have mle := Rat.intCast_le_intCast.mpr hm1
  have cm : ((1073741824 : Int) : Rat) = 1073741824 := rfl
  rw [cm] at mle
  have n1 := n.u
  have n2 := n.l
  refine rnd_is hx n hm0 hm1 (by grind) (by grind) ?_ ?_
  · rw [tilt_fall turn c (show 0 < hues by (first | lia | omega))]
    simp only [Rat.intCast_add, Rat.intCast_mul, Rat.intCast_sub]
    rw [Rat.intCast_mul] at ew
    have c2 : ((2 : Int) : Rat) = 2 := rfl
    rw [c2]
    exact ring5 ppos hpos ew
  · have e0 : 0 ≤ D / 600000000000 + 1 / 30000000000000 := by grind
    have := Rat.mul_le_mul_of_nonneg_left mle e0
    grind
end
end Mine
end
/- MyHls5 -/
section
open PySem PySem.Float64
set_option maxRecDepth 100000
namespace Mine
/-- a quotient is near S where the rest is small -/
theorem quo_near {x q S B : Rat} (hq : 0 < q) (h1 : x - S * q ≤ B * q) (h2 : S * q - x ≤ B * q) : x / q - S ≤ B ∧ S - x / q ≤ B := by
  have e : x / q * q = x := dm hq
  constructor
  · refine rat_cancel hq ?_; rw [rat_sub_mul, e]; exact h1
  · refine rat_cancel hq ?_; rw [rat_sub_mul, e]; exact h2
theorem part_near {c mx rg : UInt64} {C X Q M D I : Rat} (hc : Is c C) (hm : Is mx X) (hq : Is rg Q) (D1 : 1 / 524288 ≤ D) (D2 : D ≤ 40) (I0 : 0 ≤ I) (I1 : I ≤ 1) (nC : Nr C (M - D * I) (D / 50000000)) (nX : Nr X M (D / 50000000)) (nQ : Nr Q D (D / 10000000)) :
    ∃ e, Is (div (sub mx c) rg) e ∧ Nr e I (1 / 2000000) := by
  obtain ⟨c1, c2⟩ := nC
  obtain ⟨x1, x2⟩ := nX
  obtain ⟨q1, q2⟩ := nQ
  have DI := rat_mul_bound (x := D) (y := I) (X := D) (Y := 1) (by grind) (by grind) (by grind) I1
  have DI0 := Rat.mul_nonneg (show 0 ≤ D by grind) I0
  obtain ⟨s, hs, s1, s2⟩ := subN hm hc (2 * D) (by grind) (by grind) (by grind) (by grind)
  have hQ : 0 < Q := by grind
  have qb := rat_mul_bound (x := Q - D) (y := I) (X := D / 10000000) (Y := 1) (by grind) (by grind) (by grind) I1
  have qe : (Q - D) * I = Q * I - D * I := by grind
  rw [qe] at qb
  have nq := quo_near (x := s) (q := Q) (S := I) (B := 1 / 2500000) hQ (by grind) (by grind)
  obtain ⟨e, he, e1, e2⟩ := divN hs hq (by grind) 2 (by grind) (by grind) (by grind) (by grind)
  exact ⟨e, he, by grind, by grind⟩
theorem hue_tail {x : UInt64} {E : Rat} {hues N t : Int} (hp0 : 0 < hues) (hx : Is x E) (hn : Nr E ((N : Rat) / hues) (1 / 800000)) (n1 : -(6 * hues) ≤ N) (n2 : N ≤ 6 * hues) (hN : N = 3 * t ∨ N = 3 * t - 6 * hues) :
    ∃ (u : Rat) (z : Int), Is (modF (div x 4618441417868443648)) u ∧ Nr u ((t : Rat) / ((2 * hues : Int) : Rat) + z) (1 / 3000000) ∧ -128 ≤ u ∧ u ≤ 128 := by
  obtain ⟨x1, x2⟩ := hn
  have hpos := cast_pos hp0
  have hpos2 := cast_pos (show 0 < 2 * hues by (first | lia | omega))
  have c2 : ((2 * hues : Int) : Rat) = 2 * (hues : Rat) := by rw [Rat.intCast_mul]; rfl
  obtain ⟨w, hw⟩ : ∃ w : Int, N = 3 * t - 6 * hues * w := by
    rcases hN with h | h
    · exact ⟨0, by (first | lia | omega)⟩
    · exact ⟨1, by (first | lia | omega)⟩
  have eN : (N : Rat) / hues / 6 = (t : Rat) / ((2 * hues : Int) : Rat) - w := by
    have e1 : (N : Rat) = 3 * t - 6 * hues * w := by
      rw [hw]; simp only [Rat.intCast_sub, Rat.intCast_mul]; rfl
    rw [e1, c2]
    grind
  have nb := div_bound (n := N) (d := hues) (B := 6) hp0 (by (first | lia | omega)) (by (first | lia | omega))
  have c6 : ((6 : Int) : Rat) = 6 := rfl
  rw [c6] at nb
  obtain ⟨e, he, e1, e2⟩ := divN hx is_6 (by decide +kernel) 2 (by grind) (by grind) (by grind) (by grind)
  obtain ⟨u, z, hu, z0, z1, _, u1, u2⟩ := modF_is he
  refine ⟨u, -w - z, hu, ?_, by grind, by grind⟩
  rw [Rat.intCast_sub, Rat.intCast_neg]
  have k : (t : Rat) / ((2 * hues : Int) : Rat) + (-(w : Rat) - z) = (N : Rat) / hues / 6 - z := by rw [eN]; grind
  rw [k]
  constructor <;> grind
theorem max_zero {h i : Int} {M D X : Rat} (h4 : 4 ≤ h) (h5 : h ≤ 1024) (i0 : 0 ≤ i) (D1 : 1 / 524288 ≤ D) (nX : Nr X (M - D * ((i : Rat) / h)) (D / 50000000)) (nM : Nr X M (D / 50000000)) : i = 0 := by
  obtain ⟨x1, x2⟩ := nX
  obtain ⟨m1, m2⟩ := nM
  have hD : 0 < D := by grind
  have hpos := cast_pos (show 0 < h by (first | lia | omega))
  have k : (i : Rat) / h ≤ 1 / 10000000 := by
    refine rat_cancel hD ?_
    have : (i : Rat) / h * D = D * ((i : Rat) / h) := by grind
    rw [this]; grind
  have e : (i : Rat) / h * h = i := dm hpos
  have hh := Rat.intCast_le_intCast.mpr h5
  have ch : ((1024 : Int) : Rat) = 1024 := rfl
  rw [ch] at hh
  have := Rat.mul_le_mul_of_nonneg_right k (Rat.le_of_lt hpos)
  rw [e] at this
  have lt : (i : Rat) < ((1 : Int) : Rat) := by have c1 : ((1 : Int) : Rat) = 1 := rfl; grind
  have := Rat.intCast_lt_intCast.mp lt
  (first | lia | omega)
theorem ring6 {x y h : Rat} : (x - y) / h = x / h - y / h := by grind
theorem ring7 {k x y h : Rat} (hh : 0 < h) : (k * h + x - y) / h = k + x / h - y / h := by grind
theorem hue_near {r g b mx rg : UInt64} {R G B X Q M D : Rat} {hues ir ig ib t : Int} (h4 : 4 ≤ hues) (h5 : hues ≤ 1024)
    (hr : Is r R) (hg : Is g G) (hb : Is b B) (hm : Is mx X) (hq : Is rg Q) (D1 : 1 / 524288 ≤ D) (D2 : D ≤ 40)
    (nR : Nr R (M - D * ((ir : Rat) / hues)) (D / 50000000)) (nG : Nr G (M - D * ((ig : Rat) / hues)) (D / 50000000)) (nB : Nr B (M - D * ((ib : Rat) / hues)) (D / 50000000))
    (nX : Nr X M (D / 50000000)) (nQ : Nr Q D (D / 10000000)) (hX : X = R ∨ X = G ∨ X = B)
    (r0 : 0 ≤ ir) (r1 : ir ≤ hues) (g0 : 0 ≤ ig) (g1 : ig ≤ hues) (b0 : 0 ≤ ib) (b1 : ib ≤ hues)
    (e1 : ir = 0 → ib - ig = 3 * t ∨ ib - ig = 3 * t - 6 * hues) (e2 : ig = 0 → 2 * hues + ir - ib = 3 * t ∨ 2 * hues + ir - ib = 3 * t - 6 * hues)
    (e3 : ib = 0 → 4 * hues + ig - ir = 3 * t ∨ 4 * hues + ig - ir = 3 * t - 6 * hues) :
    ∃ (u : Rat) (z : Int), Is (hueF r g b mx rg) u ∧ Nr u ((t : Rat) / ((2 * hues : Int) : Rat) + z) (1 / 3000000) ∧ -128 ≤ u ∧ u ≤ 128 := by
  have hp0 : 0 < hues := by (first | lia | omega)
  have hpos := cast_pos hp0
  have fr := frac01 hp0 r0 r1
  have fg := frac01 hp0 g0 g1
  have fb := frac01 hp0 b0 b1
  obtain ⟨rc, irc, ⟨r2, r3⟩⟩ := part_near hr hm hq D1 D2 fr.1 fr.2.1 nR nX nQ
  obtain ⟨gc, igc, ⟨g2, g3⟩⟩ := part_near hg hm hq D1 D2 fg.1 fg.2.1 nG nX nQ
  obtain ⟨bc, ibc, ⟨b2, b3⟩⟩ := part_near hb hm hq D1 D2 fb.1 fb.2.1 nB nX nQ
  have fr1 := fr.1
  have fr2 := fr.2.1
  have fg1 := fg.1
  have fg2 := fg.2.1
  have fb1 := fb.1
  have fb2 := fb.2.1
  show ∃ (u : Rat) (z : Int), Is (modF (div _ _)) u ∧ _
  by_cases h1 : (Float64.cmp r mx == some .eq) = true
  · rw [if_pos h1]
    have eX := (cmp_eqb hr hm).mp h1
    have i0 : ir = 0 := max_zero h4 h5 r0 D1 (by rw [eX] at nR; exact nR) nX
    have e : ((ib - ig : Int) : Rat) / hues = (ib : Rat) / hues - (ig : Rat) / hues := by rw [Rat.intCast_sub]; exact ring6
    clear fr fg fb nR nG nB nX nQ hX e2 e3
    obtain ⟨y, hy, y1, y2⟩ := subN ibc igc 3 (by grind) (by grind) (by grind) (by grind)
    refine hue_tail hp0 hy (N := ib - ig) ?_ (by (first | lia | omega)) (by (first | lia | omega)) (e1 i0)
    rw [e]
    constructor <;> grind
  · rw [if_neg h1]
    by_cases h2 : (Float64.cmp g mx == some .eq) = true
    · rw [if_pos h2]
      have eX := (cmp_eqb hg hm).mp h2
      have i0 : ig = 0 := max_zero h4 h5 g0 D1 (by rw [eX] at nG; exact nG) nX
      have e : ((2 * hues + ir - ib : Int) : Rat) / hues = 2 + (ir : Rat) / hues - (ib : Rat) / hues := by
        rw [Rat.intCast_sub, Rat.intCast_add, Rat.intCast_mul]; exact ring7 hpos
      clear fr fg fb nR nG nB nX nQ hX e1 e3
      obtain ⟨x, hx, x1, x2⟩ := addN is_2 irc 4 (by grind) (by grind) (by grind) (by grind)
      obtain ⟨y, hy, y1, y2⟩ := subN hx ibc 8 (by grind) (by grind) (by grind) (by grind)
      refine hue_tail hp0 hy (N := 2 * hues + ir - ib) ?_ (by (first | lia | omega)) (by (first | lia | omega)) (e2 i0)
      rw [e]
      constructor <;> grind
    · rw [if_neg h2]
      have eX : B = X := by
        rcases hX with h | h | h
        · exact absurd ((cmp_eqb hr hm).mpr h.symm) h1
        · exact absurd ((cmp_eqb hg hm).mpr h.symm) h2
        · exact h.symm
      have i0 : ib = 0 := max_zero h4 h5 b0 D1 (by rw [eX] at nB; exact nB) nX
      have e : ((4 * hues + ig - ir : Int) : Rat) / hues = 4 + (ig : Rat) / hues - (ir : Rat) / hues := by
        rw [Rat.intCast_sub, Rat.intCast_add, Rat.intCast_mul]; exact ring7 hpos
      clear fr fg fb nR nG nB nX nQ hX e1 e2
      obtain ⟨x, hx, x1, x2⟩ := addN is_4 igc 8 (by grind) (by grind) (by grind) (by grind)
      obtain ⟨y, hy, y1, y2⟩ := subN hx irc 8 (by grind) (by grind) (by grind) (by grind)
      refine hue_tail hp0 hy (N := 4 * hues + ig - ir) ?_ (by (first | lia | omega)) (by (first | lia | omega)) (e3 i0)
      rw [e]
      constructor <;> grind
theorem hue_rnd {x : UInt64} {u : Rat} {t z hues : Int} (h4 : 4 ≤ hues) (h5 : hues ≤ 1024) (hx : Is x u) (n : Nr u ((t : Rat) / ((2 * hues : Int) : Rat) + z) (1 / 3000000)) (u1 : -128 ≤ u) (u2 : u ≤ 128) (t0 : 0 ≤ t) (t1 : t < 2 * hues) :
    Float64.isFinite (Float64.mul x (Float64.ofInt (2 * hues))) = true ∧ (rnd x (2 * hues)).fmod (2 * hues) = t := by
  have hpos2 := cast_pos (show 0 < 2 * hues by (first | lia | omega))
  have hh := Rat.intCast_le_intCast.mpr (show 2 * hues ≤ 2048 by (first | lia | omega))
  have ch : ((2048 : Int) : Rat) = 2048 := rfl
  rw [ch] at hh
  have := rnd_is (N := t + 2 * hues * z) hx n (show 0 < 2 * hues by (first | lia | omega)) (by (first | lia | omega)) u1 u2 (by
    rw [Rat.add_mul, dm hpos2, Rat.intCast_add, Rat.intCast_mul (2 * hues)]; grind) (by grind)
  exact ⟨this.1, by rw [this.2]; exact fmod_unique (z := z) rfl t0 t1⟩
end Mine
end
/- MyHls6 -/
section
open PySem PySem.Float64
set_option maxRecDepth 100000
namespace Mine
theorem ends_near {r g b : UInt64} {R G B M D δ : Rat} {hues ir ig ib : Int} (hp0 : 0 < hues) (hr : Is r R) (hg : Is g G) (hb : Is b B) (D0 : 0 ≤ D)
    (nR : Nr R (M - D * ((ir : Rat) / hues)) δ) (nG : Nr G (M - D * ((ig : Rat) / hues)) δ) (nB : Nr B (M - D * ((ib : Rat) / hues)) δ)
    (r0 : 0 ≤ ir) (r1 : ir ≤ hues) (g0 : 0 ≤ ig) (g1 : ig ≤ hues) (b0 : 0 ≤ ib) (b1 : ib ≤ hues) (lo : ir = 0 ∨ ig = 0 ∨ ib = 0) (up : ir = hues ∨ ig = hues ∨ ib = hues) :
    ∃ X N, Is (max3 r g b) X ∧ Is (min3 r g b) N ∧ Nr X M δ ∧ Nr N (M - D) δ ∧ (X = R ∨ X = G ∨ X = B) := by
  obtain ⟨X, hX, a1, a2, a3, a4⟩ := max3_is hr hg hb
  obtain ⟨N, hN, b1', b2, b3, b4⟩ := min3_is hr hg hb
  obtain ⟨fr0, fr1, fr2, fr3⟩ := frac01 hp0 r0 r1
  obtain ⟨fg0, fg1, fg2, fg3⟩ := frac01 hp0 g0 g1
  obtain ⟨fb0, fb1, fb2, fb3⟩ := frac01 hp0 b0 b1
  have z0 : (ir : Rat) / hues = 0 ∨ (ig : Rat) / hues = 0 ∨ (ib : Rat) / hues = 0 := by
    rcases lo with h | h | h
    · exact .inl (fr2 h)
    · exact .inr (.inl (fg2 h))
    · exact .inr (.inr (fb2 h))
  have z1 : (ir : Rat) / hues = 1 ∨ (ig : Rat) / hues = 1 ∨ (ib : Rat) / hues = 1 := by
    rcases up with h | h | h
    · exact .inl (fr3 h)
    · exact .inr (.inl (fg3 h))
    · exact .inr (.inr (fb3 h))
  clear fr2 fr3 fg2 fg3 fb2 fb3
  obtain ⟨R1, R2⟩ := nR
  obtain ⟨G1, G2⟩ := nG
  obtain ⟨B1, B2⟩ := nB
  generalize (ir : Rat) / hues = x at *
  generalize (ig : Rat) / hues = y at *
  generalize (ib : Rat) / hues = z at *
  have q1 := Rat.mul_nonneg D0 fr0
  have q2 := Rat.mul_nonneg D0 fg0
  have q3 := Rat.mul_nonneg D0 fb0
  have q4 := Rat.mul_nonneg D0 (show 0 ≤ 1 - x by grind)
  have q5 := Rat.mul_nonneg D0 (show 0 ≤ 1 - y by grind)
  have q6 := Rat.mul_nonneg D0 (show 0 ≤ 1 - z by grind)
  have p4 : D * (1 - x) = D - D * x := by grind
  have p5 : D * (1 - y) = D - D * y := by grind
  have p6 : D * (1 - z) = D - D * z := by grind
  have w0 : D * x = 0 ∨ D * y = 0 ∨ D * z = 0 := by
    rcases z0 with h | h | h <;> rw [h] <;> grind
  have w1 : D * x = D ∨ D * y = D ∨ D * z = D := by
    rcases z1 with h | h | h <;> rw [h] <;> grind
  rw [p4] at q4
  rw [p5] at q5
  rw [p6] at q6
  generalize D * x = u at *
  generalize D * y = v at *
  generalize D * z = w at *
  clear z0 z1 p4 p5 p6 fr0 fr1 fg0 fg1 fb0 fb1
  refine ⟨X, N, hX, hN, ⟨?_, ?_⟩, ⟨?_, ?_⟩, a4⟩
  · rcases a4 with h | h | h <;> grind
  · rcases w0 with h | h | h <;> grind
  · rcases w1 with h | h | h <;> grind
  · rcases b4 with h | h | h <;> grind
theorem quo_near_neg {x q S B : Rat} (hq : q < 0) (h1 : x - S * q ≤ B * -q) (h2 : S * q - x ≤ B * -q) : x / q - S ≤ B ∧ S - x / q ≤ B := by
  have e : x / q = (-x) / (-q) := by grind
  rw [e]
  exact quo_near (by grind) (by grind) (by grind)
theorem sat_near {nu de : UInt64} {Q S0 D Λ S' : Rat} (hn : Is nu Q) (hd : Is de S0) (D0 : 0 ≤ D) (nQ : Nr Q D (D / 10000000)) (nS : Nr S0 Λ (1 / 4000000000)) (eD : D = S' * Λ) (s1 : -4 ≤ S') (s2 : S' ≤ 4) (hΛ : 1 / 512 ≤ Λ ∨ Λ ≤ -(1 / 512)) :
    S0 ≠ 0 ∧ ∃ e, Is (div nu de) e ∧ Nr e S' (1 / 300000) := by
  obtain ⟨q1, q2⟩ := nQ
  obtain ⟨t1, t2⟩ := nS
  have pb := rat_mul_bound (x := S') (y := S0 - Λ) (X := 4) (Y := 1 / 4000000000) s1 s2 (by grind) (by grind)
  have pe : S' * (S0 - Λ) = S' * S0 - D := by rw [eD]; grind
  rw [pe] at pb
  have h0 : S0 ≠ 0 := by rcases hΛ with h | h <;> grind
  have key : Q / S0 - S' ≤ 1 / 400000 ∧ S' - Q / S0 ≤ 1 / 400000 := by
    rcases hΛ with h | h
    · have b1 := rat_mul_bound (x := S') (y := Λ) (X := 4) (Y := Λ) s1 s2 (by grind) (by grind)
      rw [← eD] at b1
      exact quo_near (by grind) (by grind) (by grind)
    · have b1 := rat_mul_bound (x := S') (y := Λ) (X := 4) (Y := -Λ) s1 s2 (by grind) (by grind)
      rw [← eD] at b1
      exact quo_near_neg (by grind) (by grind) (by grind)
  refine ⟨h0, ?_⟩
  obtain ⟨e, he, e1, e2⟩ := divN hn hd h0 8 (by grind) (by grind) (by grind) (by grind)
  exact ⟨e, he, by grind, by grind⟩
/-- what rgb_to_hls makes of the sum and of the range -/
theorem back_near {mx mn : UInt64} {X N M D δ L : Rat} (hm : Is mx X) (hn : Is mn N) (nX : Nr X M δ) (nN : Nr N (M - D) δ) (D1 : 1 / 524288 ≤ D) (D2 : D ≤ 40) (m1 : -24 ≤ M) (m2 : M ≤ 24) (d1 : δ ≤ D / 50000000) (d2 : δ ≤ 1 / 10000000000) (eL : 2 * M - D = 2 * L) :
    (∃ Q, Is (sub mx mn) Q ∧ Nr Q D (D / 10000000)) ∧ (∃ S0, Is (add mx mn) S0 ∧ Nr S0 (2 * L) (1 / 4000000000)) ∧ (∃ l, Is (hlsL mx mn) l ∧ Nr l L (1 / 4000000000)) ∧ (∃ S1, Is (sub (sub 4611686018427387904 mx) mn) S1 ∧ Nr S1 (2 * (1 - L)) (1 / 4000000000)) := by
  obtain ⟨x1, x2⟩ := nX
  obtain ⟨n1, n2⟩ := nN
  obtain ⟨Q, hQ, q1, q2⟩ := subN hm hn (2 * D) (by grind) (by grind) (by grind) (by grind)
  obtain ⟨S0, hS, s1, s2⟩ := addN hm hn 256 (by grind) (by grind) (by grind) (by grind)
  obtain ⟨l, hl, l1, l2⟩ := divN hS is_2 (by decide +kernel) 256 (by grind) (by grind) (by grind) (by grind)
  obtain ⟨A, hA, a1, a2⟩ := subN is_2 hm 256 (by grind) (by grind) (by grind) (by grind)
  obtain ⟨S1, hS1, b1, b2⟩ := subN hA hn 256 (by grind) (by grind) (by grind) (by grind)
  exact ⟨⟨Q, hQ, by grind, by grind⟩, ⟨S0, hS, by grind, by grind⟩, ⟨l, hl, by grind, by grind⟩, ⟨S1, hS1, by grind, by grind⟩⟩
/-- no swing: the level -/
theorem v_zero {m1 m2 hue : UInt64} {L p : Rat} (h1 : Is m1 L) (h2 : Is m2 L) (hs : Is (sub m2 m1) 0) (hp : Is hue p) (gL : Gr 10 L) (l1 : -4 ≤ L) (l2 : L ≤ 4) : Is (vF m1 m2 hue) L := by
  obtain ⟨u, k, hu, z0, z1, _, u1, u2⟩ := modF_is hp
  have gi : Gr 0 (0 : Rat) := Gr.int 0
  have z : ∀ {v : UInt64} {V : Rat}, Is v V → Is (add m1 (mul (mul (sub m2 m1) v) 4618441417868443648)) L := fun {v V} hv => by
    have e0 : (0 : Rat) * V = 0 := by grind
    have a1 := mulX hs hv (g := 0) (by rw [e0]; exact gi) (by decide) (by rw [e0]; grind) (by rw [e0]; grind)
    rw [e0] at a1
    have e6 : (0 : Rat) * 6 = 0 := by grind
    have a2 := mulX a1 is_6 (g := 0) (by rw [e6]; exact gi) (by decide) (by rw [e6]; grind) (by rw [e6]; grind)
    rw [e6] at a2
    have eL : L + 0 = L := by grind
    have a3 := addX h1 a2 (g := 10) (by rw [eL]; exact gL) (by decide) (by rw [eL]; grind) (by rw [eL]; grind)
    rw [eL] at a3; exact a3
  have hvF : vF m1 m2 hue = if (Float64.cmp (modF hue) 4595172819793696085 == some .lt) = true then add m1 (mul (mul (sub m2 m1) (modF hue)) 4618441417868443648)
      else if (Float64.cmp (modF hue) 4602678819172646912 == some .lt) = true then m2
      else if (Float64.cmp (modF hue) 4604180019048437077 == some .lt) = true then add m1 (mul (mul (sub m2 m1) (sub 4604180019048437077 (modF hue))) 4618441417868443648) else m1 := rfl
  obtain ⟨v, hv, _, _⟩ := subN is_twothird hu 4 (by grind) (by grind) (by grind) (by grind)
  rw [hvF]
  split
  · exact z hu
  · split
    · exact h2
    · split
      · exact z hv
      · exact h1
end Mine
end
/- MyHls7 -/
section
open PySem PySem.Float64
set_option maxRecDepth 100000
namespace Mine
section
variable {a b : Nat} {turn share level hues parts sw : Int}
/-- what is left to show where there is a swing; σ is its sign -/
theorem Tri.lightCore (T : Tri a b turn share level hues parts) (hsw : Sw share level parts sw) {D M : Rat} {ir ig ib t σ : Int} {R G B : Rat} (hg3 : Is3 (gL turn share level hues parts) R G B)
    (hD : D = (σ : Rat) * (2 * wL parts sw)) (hσ : σ = 1 ∨ σ = -1) (D1 : 1 / 524288 ≤ D) (D2 : D ≤ 40) (m1 : -24 ≤ M) (m2 : M ≤ 24) (eM : 2 * M - D = 2 * ((level : Rat) / parts))
    (nR : Nr R (M - D * ((ir : Rat) / hues)) (D / 600000000000 + 1 / 30000000000000)) (nG : Nr G (M - D * ((ig : Rat) / hues)) (D / 600000000000 + 1 / 30000000000000)) (nB : Nr B (M - D * ((ib : Rat) / hues)) (D / 600000000000 + 1 / 30000000000000))
    (r0 : 0 ≤ ir) (r1 : ir ≤ hues) (g0 : 0 ≤ ig) (g1 : ig ≤ hues) (b0 : 0 ≤ ib) (b1 : ib ≤ hues) (lo : ir = 0 ∨ ig = 0 ∨ ib = 0) (up : ir = hues ∨ ig = hues ∨ ib = hues)
    (e1 : ir = 0 → ib - ig = 3 * t ∨ ib - ig = 3 * t - 6 * hues) (e2 : ig = 0 → 2 * hues + ir - ib = 3 * t ∨ 2 * hues + ir - ib = 3 * t - 6 * hues)
    (e3 : ib = 0 → 4 * hues + ig - ir = 3 * t ∨ 4 * hues + ig - ir = 3 * t - 6 * hues) (t0 : 0 ≤ t) (t1 : t < 2 * hues) :
    Float64.isZero (Float64.sub (mxL turn share level hues parts) (mnL turn share level hues parts)) = false ∧
    (lowL turn share level hues parts = true → Float64.isZero (Float64.add (mxL turn share level hues parts) (mnL turn share level hues parts)) = false) ∧
    (lowL turn share level hues parts = false → Float64.isZero (Float64.sub (Float64.sub 4611686018427387904 (mxL turn share level hues parts)) (mnL turn share level hues parts)) = false) ∧
    (Float64.isFinite (Float64.mul (rL turn share level hues parts).1 (Float64.ofInt (2 * hues))) = true ∧ (rnd (rL turn share level hues parts).1 (2 * hues)).fmod (2 * hues) = t) ∧
    (Float64.isFinite (Float64.mul (rL turn share level hues parts).2.1 (Float64.ofInt parts)) = true ∧ rnd (rL turn share level hues parts).2.1 parts = level) ∧
    (Float64.isFinite (Float64.mul (rL turn share level hues parts).2.2 (Float64.ofInt parts)) = true ∧ rnd (rL turn share level hues parts).2.2 parts = σ * share) := by
  have hb := T.hues_pos
  have pb := T.parts_pos
  have hpos := cast_pos (show 0 < hues by (first | lia | omega))
  have ppos := cast_pos (show 0 < parts by (first | lia | omega))
  have ple := Rat.intCast_le_intCast.mpr (show parts ≤ 1024 by (first | lia | omega))
  have ch : ((1024 : Int) : Rat) = 1024 := rfl
  rw [ch] at ple
  obtain ⟨hS, gS, S1, S2⟩ := T.S
  obtain ⟨hL, gL', L1, L2⟩ := T.L
  obtain ⟨hc, _, w1, w2, _⟩ := T.wS hsw
  have hhalf := T.half
  obtain ⟨X, N, hX, hN, nX, nN, hXX⟩ := ends_near (show 0 < hues by (first | lia | omega)) hg3.r hg3.g hg3.b (by grind) nR nG nB r0 r1 g0 g1 b0 b1 lo up
  have dd1 : D / 600000000000 + 1 / 30000000000000 ≤ D / 50000000 := by grind
  have dd2 : D / 600000000000 + 1 / 30000000000000 ≤ 1 / 10000000000 := by grind
  obtain ⟨⟨Q, hQ, nQ⟩, ⟨S0, hS0, nS0⟩, ⟨l, hl, nl⟩, ⟨S1', hS1, nS1⟩⟩ := back_near hX hN nX nN D1 D2 m1 m2 dd1 dd2 eM
  have nr : ∀ {c E : Rat}, Nr c E (D / 600000000000 + 1 / 30000000000000) → Nr c E (D / 50000000) := fun h => ⟨by have := h.u; grind, by have := h.l; grind⟩
  obtain ⟨u, z, hu, nu, us, ul⟩ := hue_near hb.1 hb.2 hg3.r hg3.g hg3.b hX hQ D1 D2 (nr nR) (nr nG) (nr nB) (nr nX) nQ hXX r0 r1 g0 g1 b0 b1 e1 e2 e3
  have σ1 : (σ : Rat) = 1 ∨ (σ : Rat) = -1 := by
    rcases hσ with h | h <;> rw [h]
    · exact .inl rfl
    · exact .inr rfl
  have q1 := nQ.u
  have q2 := nQ.l
  have l1 := nl.u
  have l2 := nl.l
  have iL : (level : Rat) / parts * parts = level := dm ppos
  have iS : (share : Rat) / parts * parts = share := dm ppos
  -- the two saturations
  have hlev : (level : Rat) / parts ≠ 0 → 1 / 512 ≤ 2 * ((level : Rat) / parts) ∨ 2 * ((level : Rat) / parts) ≤ -(1 / 512) := by
    intro h
    have hl0 : level ≠ 0 := by rintro rfl; apply h; show (0 : Rat) / _ = 0; grind
    rcases Int.lt_or_gt_of_ne hl0 with h' | h'
    · right
      have k := Rat.intCast_le_intCast.mpr (show level ≤ -1 by (first | lia | omega))
      have cm : ((-1 : Int) : Rat) = -1 := rfl
      rw [cm, ← iL] at k
      refine rat_cancel ppos ?_
      grind
    · left
      have k := Rat.intCast_le_intCast.mpr (show 1 ≤ level by (first | lia | omega))
      have cm : ((1 : Int) : Rat) = 1 := rfl
      rw [cm, ← iL] at k
      refine rat_cancel ppos ?_
      grind
  have hlev1 : 1 - (level : Rat) / parts ≠ 0 → 1 / 512 ≤ 2 * (1 - (level : Rat) / parts) ∨ 2 * (1 - (level : Rat) / parts) ≤ -(1 / 512) := by
    intro h
    have hl0 : parts - level ≠ 0 := by
      intro h'
      have : level = parts := by (first | lia | omega)
      apply h; rw [this]; grind
    have i1 : (1 - (level : Rat) / parts) * parts = ((parts - level : Int) : Rat) := by rw [rat_sub_mul, iL, Rat.intCast_sub]; grind
    rcases Int.lt_or_gt_of_ne hl0 with h' | h'
    · right
      have k := Rat.intCast_le_intCast.mpr (show parts - level ≤ -1 by (first | lia | omega))
      have cm : ((-1 : Int) : Rat) = -1 := rfl
      rw [cm, ← i1] at k
      refine rat_cancel ppos ?_
      grind
    · left
      have k := Rat.intCast_le_intCast.mpr (show 1 ≤ parts - level by (first | lia | omega))
      have cm : ((1 : Int) : Rat) = 1 := rfl
      rw [cm, ← i1] at k
      refine rat_cancel ppos ?_
      grind
  have D0 : 0 ≤ D := by grind
  have Wne : wL parts sw ≠ 0 := by intro h; rw [h] at hD; grind
  have low : l ≤ 1 / 2 → S0 ≠ 0 ∧ ∃ e, Is (div (sub (mxL turn share level hues parts) (mnL turn share level hues parts)) (add (mxL turn share level hues parts) (mnL turn share level hues parts))) e ∧ Nr e ((σ : Rat) * ((share : Rat) / parts)) (1 / 300000) := by
    intro hle
    have h2 : 2 * level ≤ parts := by
      have k : (2 * level : Rat) < ((parts + 1 : Int) : Rat) := by
        rw [Rat.intCast_add]
        have c1 : ((1 : Int) : Rat) = 1 := rfl
        have m := Rat.mul_le_mul_of_nonneg_right (show (level : Rat) / parts ≤ 1 / 2 + 1 / 4000000000 by grind) (Rat.le_of_lt ppos)
        rw [iL] at m
        rw [c1]
        grind
      have k' : ((2 * level : Int) : Rat) < ((parts + 1 : Int) : Rat) := by rw [Rat.intCast_mul]; exact k
      have := Rat.intCast_lt_intCast.mp k'
      (first | lia | omega)
    have hw : wL parts sw = (level : Rat) / parts * ((share : Rat) / parts) := by
      rcases hc with ⟨_, e⟩ | ⟨h, _⟩
      · exact e
      · have := hhalf.mpr h2; grind
    refine sat_near (D := D) hQ hS0 D0 nQ nS0 ?_ ?_ ?_ (hlev ?_)
    · rw [hD, hw]; generalize (level : Rat) / parts = x; generalize (share : Rat) / parts = y; grind
    · rcases σ1 with h | h <;> rw [h] <;> grind
    · rcases σ1 with h | h <;> rw [h] <;> grind
    · intro h; apply Wne; rw [hw, h]; grind
  have high : ¬ l ≤ 1 / 2 → S1' ≠ 0 ∧ ∃ e, Is (div (sub (mxL turn share level hues parts) (mnL turn share level hues parts)) (sub (sub 4611686018427387904 (mxL turn share level hues parts)) (mnL turn share level hues parts))) e ∧ Nr e ((σ : Rat) * ((share : Rat) / parts)) (1 / 300000) := by
    intro hle
    have h2 : parts ≤ 2 * level := by
      have k : ((parts - 1 : Int) : Rat) < (2 * level : Rat) := by
        rw [Rat.intCast_sub]
        have c1 : ((1 : Int) : Rat) = 1 := rfl
        have m := Rat.mul_le_mul_of_nonneg_right (show 1 / 2 - 1 / 4000000000 ≤ (level : Rat) / parts by grind) (Rat.le_of_lt ppos)
        rw [iL] at m
        rw [c1]
        grind
      have k' : ((parts - 1 : Int) : Rat) < ((2 * level : Int) : Rat) := by rw [Rat.intCast_mul]; exact k
      have := Rat.intCast_lt_intCast.mp k'
      (first | lia | omega)
    have hw : wL parts sw = (share : Rat) / parts * (1 - (level : Rat) / parts) := by
      rcases hc with ⟨h, e⟩ | ⟨_, e⟩
      · have h3 := hhalf.mp h
        have h4 : parts = 2 * level := by (first | lia | omega)
        have e5 : (level : Rat) / parts = 1 / 2 := by
          refine rat_eq_cancel ppos ?_
          rw [iL]
          have : (parts : Rat) = 2 * (level : Rat) := by rw [h4, Rat.intCast_mul]; rfl
          rw [this]; grind
        rw [e, e5]; generalize (share : Rat) / parts = y; grind
      · exact e
    refine sat_near (D := D) hQ hS1 D0 nQ nS1 ?_ ?_ ?_ (hlev1 ?_)
    · rw [hD, hw]; generalize (level : Rat) / parts = x; generalize (share : Rat) / parts = y; grind
    · rcases σ1 with h | h <;> rw [h] <;> grind
    · rcases σ1 with h | h <;> rw [h] <;> grind
    · intro h; apply Wne; rw [hw, h]; grind
  have lowIff : lowL turn share level hues parts = true ↔ l ≤ 1 / 2 := low_iff hl
  have hne : ¬ (Float64.cmp (mnL turn share level hues parts) (mxL turn share level hues parts) == some .eq) = true := fun h => by
    have := (cmp_eqb hN hX).mp h
    have x1 := nX.l
    have n1 := nN.u
    grind
  have er : rL turn share level hues parts = (hueF (gL turn share level hues parts).1 (gL turn share level hues parts).2.1 (gL turn share level hues parts).2.2 (mxL turn share level hues parts) (sub (mxL turn share level hues parts) (mnL turn share level hues parts)), hlsL (mxL turn share level hues parts) (mnL turn share level hues parts), hlsS (mxL turn share level hues parts) (mnL turn share level hues parts)) := by
    show rgbhlsF _ _ _ = _
    unfold rgbhlsF; exact if_neg hne
  have sat : ∃ e, Is (hlsS (mxL turn share level hues parts) (mnL turn share level hues parts)) e ∧ Nr e ((σ : Rat) * ((share : Rat) / parts)) (1 / 300000) := by
    by_cases h : l ≤ 1 / 2
    · have e5 : hlsS (mxL turn share level hues parts) (mnL turn share level hues parts) = div (sub (mxL turn share level hues parts) (mnL turn share level hues parts)) (add (mxL turn share level hues parts) (mnL turn share level hues parts)) := by
        unfold hlsS; exact if_pos (lowIff.mpr h)
      rw [e5]; exact (low h).2
    · have e5 : hlsS (mxL turn share level hues parts) (mnL turn share level hues parts) = div (sub (mxL turn share level hues parts) (mnL turn share level hues parts)) (sub (sub 4611686018427387904 (mxL turn share level hues parts)) (mnL turn share level hues parts)) := by
        unfold hlsS; exact if_neg (fun q => h (lowIff.mp q))
      rw [e5]; exact (high h).2
  obtain ⟨e, he, ne⟩ := sat
  have ne1 := ne.u
  have ne2 := ne.l
  have nu1 := nu.u
  have nu2 := nu.l
  refine ⟨eq_false_of fun h => ?_, fun h => eq_false_of fun h' => (low (lowIff.mp h)).1 ((isZero_iff hS0).mp h'), fun h => eq_false_of fun h' => (high (fun q => ne_false h (lowIff.mpr q))).1 ((isZero_iff hS1).mp h'), ?_, ?_, ?_⟩
  · have := (isZero_iff hQ).mp h
    grind
  · rw [er]
    exact hue_rnd hb.1 hb.2 hu nu us ul t0 t1
  · rw [er]
    exact rnd_is hl nl (by (first | lia | omega)) (by (first | lia | omega)) (by grind) (by grind) iL (by grind)
  · rw [er]
    refine rnd_is he ne (by (first | lia | omega)) (by (first | lia | omega)) ?_ ?_ ?_ (by grind)
    · rcases σ1 with h | h <;> rw [h] at ne1 ne2 <;> grind
    · rcases σ1 with h | h <;> rw [h] at ne1 ne2 <;> grind
    · rw [Rat.mul_assoc, iS, Rat.intCast_mul]
end
end Mine
end
/- MyHls8 -/
section
open PySem PySem.Float64
set_option maxRecDepth 100000
namespace Mine
section
variable {a b : Nat} {turn share level hues parts sw : Int}
theorem Tri.flat (T : Tri a b turn share level hues parts) (hsw : Sw share level parts sw) (h0 : sw = 0) : Is3 (gL turn share level hues parts) ((level : Rat) / parts) ((level : Rat) / parts) ((level : Rat) / parts) := by
  obtain ⟨hS, gS, S1, S2⟩ := T.S
  obtain ⟨hL, gL', L1, L2⟩ := T.L
  obtain ⟨m1, m2, ms⟩ := T.mm hsw
  have hw := (T.w_min hsw).2.2 h0
  rw [hw] at m1 m2 ms
  have e1 : (level : Rat) / parts - 0 = (level : Rat) / parts := by grind
  have e2 : (level : Rat) / parts + 2 * 0 = (level : Rat) / parts := by grind
  have e3 : (2 : Rat) * 0 = 0 := by grind
  rw [e1] at m1 m2
  rw [e2] at m2
  rw [e3] at ms
  obtain ⟨⟨pr, Xr, hr, _⟩, ⟨pg, Xg, hg, _⟩, ⟨pb, Xb, hbl, _⟩⟩ := T.hues3
  unfold gL hlsF
  split
  · exact ⟨hL, hL, hL⟩
  · exact ⟨v_zero m1 m2 ms hr gL' L1 L2, v_zero m1 m2 ms hg gL' L1 L2, v_zero m1 m2 ms hbl gL' L1 L2⟩
theorem Tri.light0 (T : Tri a b turn share level hues parts) (hsw : Sw share level parts sw) (h0 : sw = 0) : LightOk turn share level hues parts sw := by
  have G := T.flat hsw h0
  obtain ⟨hL, gL', L1, L2⟩ := T.L
  have hb := T.hues_pos
  have pb := T.parts_pos
  have ppos := cast_pos (show 0 < parts by (first | lia | omega))
  have hw := (T.w_min hsw).2.2 h0
  have n : ∀ c, Nr ((level : Rat) / parts) ((level : Rat) / parts - wL parts sw + 2 * wL parts sw * (1 - (fallI turn c hues : Rat) / hues)) (0 / 600000000000 + 1 / 30000000000000) := fun c => by
    rw [hw]
    generalize (fallI turn c hues : Rat) / hues = x
    constructor <;> grind
  have R1 := T.round1 hsw (D := 0) (by grind) (by grind) 0 G.r (n 0)
  have R2 := T.round1 hsw (D := 0) (by grind) (by grind) (2 * hues) G.g (n _)
  have R3 := T.round1 hsw (D := 0) (by grind) (by grind) (4 * hues) G.b (n _)
  obtain ⟨X, hX, a1, a2, a3, a4⟩ := max3_is G.r G.g G.b
  obtain ⟨N, hN, b1, b2, b3, b4⟩ := min3_is G.r G.g G.b
  have eX : X = (level : Rat) / parts := by grind
  have eN : N = (level : Rat) / parts := by grind
  rw [eX] at hX
  rw [eN] at hN
  have heq : (Float64.cmp (mnL turn share level hues parts) (mxL turn share level hues parts) == some .eq) = true := (cmp_eqb hN hX).mpr rfl
  have er : rL turn share level hues parts = (0, hlsL (mxL turn share level hues parts) (mnL turn share level hues parts), 0) := by
    show rgbhlsF _ _ _ = _
    unfold rgbhlsF; exact if_pos heq
  have hs : Is (hlsL (mxL turn share level hues parts) (mnL turn share level hues parts)) ((level : Rat) / parts) := by
    have s1 := addX hX hN (gL'.add gL') (by decide) (by grind) (by grind)
    have e : ((level : Rat) / parts + (level : Rat) / parts) / 2 = (level : Rat) / parts := by grind
    have s2 := divX s1 is_2 (by decide +kernel) (g := 10) (by rw [e]; exact gL') (by decide) (by rw [e]; grind) (by rw [e]; grind)
    rw [e] at s2; exact s2
  have iL : (level : Rat) / parts * parts = level := dm ppos
  have z2 := rnd_is (m := 2 * hues) (N := 0) is_0 (E := 0) (e := 0) ⟨by grind, by grind⟩ (by (first | lia | omega)) (by (first | lia | omega)) (by grind) (by grind) (by show _ = (0 : Rat); grind) (by grind)
  have zp := rnd_is (m := parts) (N := 0) is_0 (E := 0) (e := 0) ⟨by grind, by grind⟩ (by (first | lia | omega)) (by (first | lia | omega)) (by grind) (by grind) (by show _ = (0 : Rat); grind) (by grind)
  have lp := rnd_is (m := parts) (N := level) hs (E := (level : Rat) / parts) (e := 0) ⟨by grind, by grind⟩ (by (first | lia | omega)) (by (first | lia | omega)) (by grind) (by grind) iL (by grind)
  have ct : ∀ {P : Prop}, (Float64.cmp (mnL turn share level hues parts) (mxL turn share level hues parts) == some .eq) = false → P := fun h => absurd heq (ne_false h)
  refine ⟨R1.1, R2.1, R3.1, R1.2, R2.2, R3.2, fun h => ct h, fun h => ct h, fun h => ct h, fun _ => ?_, ?_, ?_, ?_, fun h => absurd h0 (by (first | lia | omega)), fun h => absurd h0 (by (first | lia | omega))⟩
  · rw [er]; exact ⟨(cmp_eq is_0 is_0).mpr rfl, (cmp_eq hs hL).mpr rfl, (cmp_eq is_0 is_0).mpr rfl⟩
  · rw [er]; exact z2.1
  · rw [er]; exact lp.1
  · rw [er]; exact zp.1
theorem opp_turn {turn y z hues : Int} (hz : turn = y + hues * z) (y0 : 0 ≤ y) (y1 : y < hues) : ∃ t, t = (2 * turn + hues).fmod (2 * hues) ∧ 0 ≤ t ∧ t < 2 * hues ∧ ((2 * y < hues ∧ t = 2 * y + hues) ∨ (hues ≤ 2 * y ∧ t = 2 * y - hues)) := by
  by_cases hc : 2 * y < hues
  · have e : (2 * turn + hues).fmod (2 * hues) = 2 * y + hues := fmod_unique (z := z) (by subst hz; rw [Int.mul_add, Int.mul_assoc]; (first | lia | omega)) (by (first | lia | omega)) (by (first | lia | omega))
    exact ⟨_, e.symm, by (first | lia | omega), by (first | lia | omega), .inl ⟨hc, rfl⟩⟩
  · have e : (2 * turn + hues).fmod (2 * hues) = 2 * y - hues := fmod_unique (z := z + 1) (by subst hz; rw [Int.mul_add (2 * hues), Int.mul_add, Int.mul_assoc]; (first | lia | omega)) (by (first | lia | omega)) (by (first | lia | omega))
    exact ⟨_, e.symm, by (first | lia | omega), by (first | lia | omega), .inr ⟨by (first | lia | omega), rfl⟩⟩
theorem ring8 {L w F : Rat} : L - w + 2 * w * (1 - F) = L + w - 2 * w * F := by grind
theorem ring9 {L w x h : Rat} (hh : 0 < h) : L - w + 2 * w * (1 - x / h) = L - w - -(2 * w) * ((h - x) / h) := by grind
theorem Tri.lightP (T : Tri a b turn share level hues parts) (hsw : Sw share level parts sw) (h0 : 0 < sw) : LightOk turn share level hues parts sw := by
  have hb := T.hues_pos
  have hp0 : 0 < hues := by (first | lia | omega)
  obtain ⟨hw, hw1⟩ := (T.w_min hsw).1 h0
  obtain ⟨_, _, w1, w2, _⟩ := T.wS hsw
  obtain ⟨_, _, L1, L2⟩ := T.L
  obtain ⟨R, G, B, hg3, nR, nG, nB⟩ := T.comps hsw (D := 2 * wL parts sw) (.inl ⟨rfl, hw⟩) (by grind)
  have R1 := T.round1 hsw (by grind) (by grind) 0 hg3.r nR
  have R2 := T.round1 hsw (by grind) (by grind) (2 * hues) hg3.g nG
  have R3 := T.round1 hsw (by grind) (by grind) (4 * hues) hg3.b nB
  rw [ring8] at nR nG nB
  obtain ⟨y, hy, y0, y1, k, k0, k5, k1, k2, hf⟩ := falls turn hp0
  obtain ⟨z, hz, _, _⟩ := fmod_split turn hp0
  rw [← hy] at hz
  have br := fall_bounds turn 0 hp0
  have bg := fall_bounds turn (2 * hues) hp0
  have bb := fall_bounds turn (4 * hues) hp0
  obtain ⟨f0, f1⟩ := fall_ends turn hp0
  have et : (2 * turn).fmod (2 * hues) = 2 * y := fmod_unique (z := z) (by subst hz; rw [Int.mul_add, Int.mul_assoc]) (by (first | lia | omega)) (by (first | lia | omega))
  have W := wayP hf hp0
  clear hf k1 k2 k0 k5
  obtain ⟨z1, z2, z3, K1, K2, K3⟩ := T.lightCore hsw hg3 (σ := 1) (t := 2 * y) (by show _ = (1 : Rat) * _; grind) (.inl rfl) (by grind) (by grind) (by grind) (by grind) (by grind) nR nG nB br.1 br.2 bg.1 bg.2 bb.1 bb.2 f0 f1 W.1 W.2.1 W.2.2 (by (first | lia | omega)) (by (first | lia | omega))
  exact ⟨R1.1, R2.1, R3.1, R1.2, R2.2, R3.2, fun _ => z1, fun _ => z2, fun _ => z3, fun h => absurd h (by (first | lia | omega)), K1.1, K2.1, K3.1, fun _ => ⟨by rw [et]; exact K1.2, K2.2, by rw [K3.2, Int.one_mul]⟩, fun h => absurd h (by (first | lia | omega))⟩
theorem sub_ends {h x r g b : Int} (f : r = x ∨ g = x ∨ b = x) : (x = h → h - r = 0 ∨ h - g = 0 ∨ h - b = 0) ∧ (x = 0 → h - r = h ∨ h - g = h ∨ h - b = h) := by
  constructor <;> rintro rfl <;> rcases f with rfl | rfl | rfl <;> (first | lia | omega)
theorem Tri.lightN (T : Tri a b turn share level hues parts) (hsw : Sw share level parts sw) (h0 : sw < 0) : LightOk turn share level hues parts sw := by
  have hb := T.hues_pos
  have hp0 : 0 < hues := by (first | lia | omega)
  have hpos := cast_pos hp0
  obtain ⟨hw, hw1⟩ := (T.w_min hsw).2.1 h0
  obtain ⟨_, _, w1, w2, _⟩ := T.wS hsw
  obtain ⟨_, _, L1, L2⟩ := T.L
  obtain ⟨R, G, B, hg3, nR, nG, nB⟩ := T.comps hsw (D := -(2 * wL parts sw)) (.inr ⟨rfl, hw⟩) (by grind)
  have R1 := T.round1 hsw (by grind) (by grind) 0 hg3.r nR
  have R2 := T.round1 hsw (by grind) (by grind) (2 * hues) hg3.g nG
  have R3 := T.round1 hsw (by grind) (by grind) (4 * hues) hg3.b nB
  rw [ring9 hpos, ← Rat.intCast_sub] at nR nG nB
  obtain ⟨y, hy, y0, y1, k, k0, k5, k1, k2, hf⟩ := falls turn hp0
  obtain ⟨z, hz, _, _⟩ := fmod_split turn hp0
  rw [← hy] at hz
  have br := fall_bounds turn 0 hp0
  have bg := fall_bounds turn (2 * hues) hp0
  have bb := fall_bounds turn (4 * hues) hp0
  obtain ⟨f0, f1⟩ := fall_ends turn hp0
  obtain ⟨t, ht, t0, t1, tt⟩ := opp_turn hz y0 y1
  have W := wayN hf hp0 k2 tt
  clear hf k1 k2 k0 k5 tt
  obtain ⟨z1, z2, z3, K1, K2, K3⟩ := T.lightCore hsw hg3 (σ := -1) (t := t) (by show _ = (-1 : Rat) * _; grind) (.inr rfl) (by grind) (by grind) (by grind) (by grind) (by grind) nR nG nB (by (first | lia | omega)) (by (first | lia | omega)) (by (first | lia | omega)) (by (first | lia | omega)) (by (first | lia | omega)) (by (first | lia | omega)) ((sub_ends f1).1 rfl) ((sub_ends f0).2 rfl) W.1 W.2.1 W.2.2 t0 t1
  exact ⟨R1.1, R2.1, R3.1, R1.2, R2.2, R3.2, fun _ => z1, fun _ => z2, fun _ => z3, fun h => absurd h (by (first | lia | omega)), K1.1, K2.1, K3.1, fun h => absurd h (by (first | lia | omega)), fun _ => ⟨by rw [← ht]; exact K1.2, K2.2, by rw [K3.2, Int.neg_one_mul]⟩⟩
theorem Tri.light (T : Tri a b turn share level hues parts) (hsw : Sw share level parts sw) : LightOk turn share level hues parts sw := by
  rcases Int.lt_trichotomy sw 0 with h | h | h
  · exact T.lightN hsw h
  · exact T.light0 hsw h
  · exact T.lightP hsw h
end
end Mine
end
/- MyTop -/
section
open PySem PySem.W PyProof.Rows
namespace Mine
set_option maxRecDepth 100000
set_option maxHeartbeats 8000000
open_top hd for PySem.Challenge.rw_dz0010_01
end Mine
end
/- MyToks -/
section
open PySem PySem.W PyProof.Rows PySem.Spec PySem.Calls PySem.Flt
set_option maxRecDepth 100000
set_option maxHeartbeats 8000000
namespace Mine
theorem toks_runs {M : Model} {Γ : PySem.Ctx} {p : Pos} {t : Sem Fin} {fs : List Frame} {s : Shared} {e : End} {s' : Shared} (h : Runs M Γ p t fs s e s') : s.toks ≤ s'.toks := by
  induction h <;> (try simp only [Shared.setGen] at *) <;> first | exact Nat.le_refl _ | assumption | (exact Nat.le_trans (by assumption) (by assumption)) | (exact Nat.le_of_succ_le (by assumption))
theorem toks_wakes {M : Model} {Γ : PySem.Ctx} {p : Pos} {g : Nat} {r : Resume} {s : Shared} {res : GenResult} {s' : Shared} (h : Wakes M Γ p g r s res s') : s.toks ≤ s'.toks := by
  unfold Wakes at h
  split at h
  · exact h.elim
  · split at h
    · obtain ⟨e₁, s₁, hr, _, _, rfl⟩ := h; have := toks_runs hr; exact this
    · obtain ⟨_, rfl⟩ := h; exact Nat.le_refl _
    · obtain ⟨_, rfl⟩ := h; exact Nat.le_refl _
  · obtain ⟨e₁, s₁, hr, _, _, rfl⟩ := h; have := toks_runs hr; exact this
  · obtain ⟨_, rfl⟩ := h; exact Nat.le_refl _
  · obtain ⟨_, rfl⟩ := h; exact Nat.le_refl _
theorem wp_up {α : Type} {M : Model} {Γ : PySem.Ctx} {n : Nat} (t : Sem α) (Q : α → Pos → Shared → Prop) (E : Value → Pos → Shared → Prop) (p : Pos) (s : Shared) (hn : n ≤ s.toks)
    (h : Sem.wp M Γ t (fun a p' s' => n ≤ s'.toks → Q a p' s') (fun e p' s' => n ≤ s'.toks → E e p' s') p s) : Sem.wp M Γ t Q E p s := by
  induction t generalizing p s with
  | pure a => exact h hn
  | raise e => exact h hn
  | unsupported _ => exact h
  | finish _ => exact h
  | rule _ k ih => exact ih () p s hn h
  | «at» p' k ih => exact ih () p' s hn h
  | load a _ k ih => obtain ⟨o, ho, h⟩ := h; exact ⟨o, ho, ih o p s hn h⟩
  | update a _ f k ih => exact ⟨h.1, ih () p _ hn h.2⟩
  | alloc o k ih => exact ih _ p _ hn h
  | loadIfAlive a k ih => exact ih _ p s hn h
  | point _ k ih => exact ih () p s hn h
  | register _ _ _ => exact h
  | fresh k ih => exact ih _ p _ (Nat.le_succ_of_le hn) h
  | ask k ih => exact ih _ p s hn h
  | choose src m k ih => exact ⟨h.1, ih _ p _ hn h.2⟩
  | os q _ k ih => exact ih _ p _ hn h
  | call c hd _ _ k ih =>
    obtain ⟨r, s', hr, h⟩ := h
    exact ⟨r, s', hr, ih r p s' (Nat.le_trans hn (toks_runs hr)) h⟩
  | handled own k ih => exact ih _ p s hn h
  | newGen c k ih => exact ih _ p _ hn h
  | genState g k ih => obtain ⟨st, hs, h⟩ := h; exact ⟨st, hs, ih _ p s hn h⟩
  | resume g r _ k ih =>
    obtain ⟨res, s', hw, h⟩ := h
    exact ⟨res, s', hw, ih res p s' (Nat.le_trans hn (toks_wakes hw)) h⟩
  | yield _ _ _ _ _ => exact h
  | stack k ih => exact ih _ p s hn h
  | fork _ _ _ => exact h
  | thread k ih => exact ih _ p s hn h
  | await _ _ _ _ _ _ => exact h
theorem wpAny_up {α : Type} {M : Model} {A : Around} {t : Sem α} {Q : α → Shared → Prop} {E : Value → Shared → Prop} {s : Shared} (n : Nat) (hn : n ≤ s.toks)
    (h : wpAny M A t (fun a s' => n ≤ s'.toks → Q a s') (fun e s' => n ≤ s'.toks → E e s') s) : wpAny M A t Q E s :=
  fun Γ p hΓ => wp_up t _ _ p s hn (h Γ p hΓ)
def PosThen (n : Nat) (P : Prop) : Prop := 0 < n → P
theorem PosThen.of {n : Nat} {P : Prop} (h : 0 < n → P) : PosThen n P := h
theorem execs_pos {M : Model} {A : Around} {env : Env} {st : Stmt} {rest : List Stmt} {Q : Flow → Shared → Prop} {E : Value → Shared → Prop} {s : Shared} (h0 : 0 < s.toks)
    (h : ∀ tk, 0 < tk → wpAny M A (exec st env) (fun f s' => PosThen s'.toks (match f with | .next => wpAny M A (execs rest env) Q E s' | f => Q f s')) E { s with toks := tk }) :
    wpAny M A (execs (st :: rest) env) Q E s :=
  wpAny_execs_cons (wpAny_up 1 h0 (wpAny_mono (h s.toks h0) (fun _ _ hp h1 => hp h1) (fun _ _ e _ => e)))
theorem cmp_self {x : UInt64} (h : Float64.isNaN x = false) : Float64.cmp x x = some .eq := by
  rcases three x with ⟨_, c⟩ | ⟨sg, hd, c⟩ | ⟨sg, m, e, hd, c⟩
  · rw [h] at c; cases c
  · unfold Float64.cmp; rw [hd]; cases sg <;> rfl
  · rw [Float64.cmp_right hd hd]; simp
theorem noneBooked {w : World} {h : Heap} (X : (Mine.hd.heap_39 w.params).In h) : NoneBooked h :=
  ⟨fun _ => none, ⟨_, _, _, X 2 _ rfl, rfl, (fun _ hm => nomatch hm), fun _ => rfl⟩, rfl⟩
open PySem.SeqAt in
theorem eqAt_float {A : Around} {s : Shared} {p q : UInt64} {t u : Tok} (hc : Float64.cmp p q = some .eq) (ht : (0 : Nat) < t) (hu : (0 : Nat) < u) (hb : NoneBooked s.heap) : EqAt A s (.float p t) (.float q u) true := by
  intro prog w E Q hq
  unfold eqBool
  refine wpAny_holding ?_
  refine wpAny_ite ?_
  split
  · exact wpAny_bind (wpAny_rule (wpAny_pure hq))
  have hcmp : wpAny (model prog w) A (richCompare .Eq (.float p t) (.float q u) >>= truthOfDropped) Q E s :=
    wpAny_bind (AutoFloatOps.eq_0 (by rw [hc]; exact wpAny_pure hq))
  refine wpAny_bind ?_
  show wpAny _ _ (isSame.created (p == q && !Float64.isNaN p) t u) _ _ _
  unfold isSame.created
  refine wpAny_ite ?_
  split
  · rename_i h; simp only [Bool.or_eq_true, beq_iff_eq] at h; exact absurd h (not_or.mpr ⟨Nat.ne_of_gt ht, Nat.ne_of_gt hu⟩)
  refine wpAny_ite ?_
  split
  · exact wpAny_pure (wpAny_pure hq)
  refine wpAny_ite ?_
  split
  · exact wpAny_pure hcmp
  refine wpAny_bind (wpAny_sharingNotTold_none hb ?_)
  first | rw [if_neg Bool.false_ne_true] | simp only [Bool.false_eq_true, if_false]
  refine wpAny_bind (wpAny_sharingNotTold_none hb ?_)
  first | rw [if_neg Bool.false_ne_true] | simp only [Bool.false_eq_true, if_false]
  refine wpAny_bind (wpAny_rule (wpAny_bind (wpAny_askSetting (wpAny_pure ?_))))
  split
  · exact wpAny_pure hq
  · exact hcmp
end Mine
end
/- MyBase -/
section
open PySem PySem.W PyProof.Rows PySem.Spec PySem.Calls PySem.Flt
set_option maxRecDepth 100000
set_option maxHeartbeats 8000000
set_option linter.unusedSimpArgs false
namespace Mine
def FClaim (w : World) (mean : ExcName → Option Value) (mg mb : Str → Option Value) (f : Addr) (news : List (Addr × Obj)) (vs : List Value) (dn : Nat)
    (Ret : Heap → Addr → (Str → Option Value) → Shared → (Value → Shared → Prop) → Prop) : Prop :=
  ∀ (dp un : Nat) (gd : Option (List Code)) (cn : Str) (cs : Scope) (a : Addr) (ccd : Value) (cl : List (Str × Addr)) (outer : List Env) (A₀ : Around) (base h₀ : Heap) (L : Addr) (m : Str → Option Value) (s : Shared) (Q E : Value → Shared → Prop),
    Below A₀ base outer h₀ → Fr h₀ L s.heap m → (Mine.hd.heap_39 w.params).In h₀ → News h₀ L s.heap news →
    Top Mine.hd.view_39 (looseW Mine.hd.view_39 [Str.ofString "ONE_THIRD", Str.ofString "ONE_SIXTH", Str.ofString "TWO_THIRD"]) mean mg mb h₀ → cs.kind = .function →
    dp + dn < recursionLimit → un + 8 * dn < cLine → 0 < s.toks → Ret h₀ L m s Q →
      wpAny (model PySem.Challenge.rw_dz0010_01.row.prog w) (ktrTop dp un gd cn cs L a ccd cl outer) (call (.ref f) vs) Q E s
theorem use {w : World} {mean : ExcName → Option Value} {mg mb : Str → Option Value} {f : Addr} {news : List (Addr × Obj)} {vs : List Value} {dn : Nat}
    {Ret : Heap → Addr → (Str → Option Value) → Shared → (Value → Shared → Prop) → Prop} (C : FClaim w mean mg mb f news vs dn Ret)
    {dp un : Nat} {gd : Option (List Code)} {cn : Str} {cs : Scope} {a : Addr} {ccd : Value} {cl : List (Str × Addr)} {outer : List Env} {A₀ : Around} {base h₀ : Heap} {L : Addr} {m : Str → Option Value} {s : Shared} {Q E : Value → Shared → Prop}
    (B : Below A₀ base outer h₀) (F : Fr h₀ L s.heap m) (X : (Mine.hd.heap_39 w.params).In h₀) (N : News h₀ L s.heap news)
    (T : Top Mine.hd.view_39 (looseW Mine.hd.view_39 [Str.ofString "ONE_THIRD", Str.ofString "ONE_SIXTH", Str.ofString "TWO_THIRD"]) mean mg mb h₀) (hk : cs.kind = .function)
    (hd : dp + dn < recursionLimit) (hu : un + 8 * dn < cLine) (ht : 0 < s.toks) (R : Ret h₀ L m s Q) :
      wpAny (model PySem.Challenge.rw_dz0010_01.row.prog w) (ktrTop dp un gd cn cs L a ccd cl outer) (call (.ref f) vs) Q E s := C _ _ _ _ _ _ _ _ _ _ _ _ _ _ _ _ _ B F X N T hk hd hu ht R
theorem useA {w : World} {mean : ExcName → Option Value} {mg mb : Str → Option Value} {f : Addr} {news : List (Addr × Obj)} {vs : List Value} {dn : Nat}
    {Ret : Heap → Addr → (Str → Option Value) → Shared → (Value → Shared → Prop) → Prop} (C : FClaim w mean mg mb f news vs dn Ret)
    {dp un : Nat} {gd : Option (List Code)} {cn : Str} {cs : Scope} {a : Addr} {ccd : Value} {cl : List (Str × Addr)} {outer : List Env} {A₀ : Around} {base h₀ : Heap} {L : Addr} {m : Str → Option Value} {s : Shared} {Q E : Value → Shared → Prop}
    (R : Ret h₀ L m s Q) (B : Below A₀ base outer h₀ := by k_asm) (F : Fr h₀ L s.heap m := by k_asm) (X : (Mine.hd.heap_39 w.params).In h₀ := by k_asm) (N : News h₀ L s.heap news := by k_asm)
    (T : Top Mine.hd.view_39 (looseW Mine.hd.view_39 [Str.ofString "ONE_THIRD", Str.ofString "ONE_SIXTH", Str.ofString "TWO_THIRD"]) mean mg mb h₀ := by k_asm) (hk : cs.kind = .function := by first | exact rfl | assumption)
    (hd : dp + dn < recursionLimit := by first | exact Nat.lt_of_succ_lt (by assumption) | ktr_room) (hu : un + 8 * dn < cLine := by ktr_units) (ht : 0 < s.toks := by dsimp only; first | with_reducible assumption | exact Nat.succ_pos _ | omega) :
      wpAny (model PySem.Challenge.rw_dz0010_01.row.prog w) (ktrTop dp un gd cn cs L a ccd cl outer) (call (.ref f) vs) Q E s := use C B F X N T hk hd hu ht R
abbrev RetF (news : List (Addr × Obj)) (x : UInt64) (h₀ : Heap) (L : Addr) (m : Str → Option Value) (s : Shared) (Q : Value → Shared → Prop) : Prop :=
  ∀ (t : Nat) h' (tk' : Nat), 0 < t → 0 < tk' → Fr h₀ L h' m → News h₀ L h' news → Q (.float x t) { s with heap := h', toks := tk' }
theorem retF {h₀ h' : Heap} {L : Addr} {m : Str → Option Value} {news : List (Addr × Obj)} {s : Shared} {Q : Value → Shared → Prop} {t : Nat} {tk' : Nat} {x y : UInt64}
   (hret : RetF news x h₀ L m s Q) (ht : 0 < t) (hk : 0 < tk') (F : Fr h₀ L h' m) (N : News h₀ L h' news) (e : y = x) : Q (.float y t) { s with heap := h', toks := tk' } := by
  subst e
  exact hret t h' tk' ht hk F N
abbrev RetI (news : List (Addr × Obj)) (x : Int) (h₀ : Heap) (L : Addr) (m : Str → Option Value) (s : Shared) (Q : Value → Shared → Prop) : Prop :=
  ∀ t h' (tk' : Nat), 0 < tk' → Fr h₀ L h' m → News h₀ L h' news → Q (.int x t) { s with heap := h', toks := tk' }
theorem retI {h₀ h' : Heap} {L : Addr} {m : Str → Option Value} {news : List (Addr × Obj)} {s : Shared} {Q : Value → Shared → Prop} {t : Tok} {tk' : Nat} {x y : Int}
   (hret : RetI news x h₀ L m s Q) (hk : 0 < tk') (F : Fr h₀ L h' m) (N : News h₀ L h' news) (e : y = x) : Q (.int y t) { s with heap := h', toks := tk' } := by
  subst e
  exact hret t h' tk' hk F N
abbrev tupF (x y z : UInt64) (t1 t2 t3 : Tok) : Obj := { cls := .type "tuple", data := .seq #[.float x t1, .float y t2, .float z t3] }
abbrev RetT (news : List (Addr × Obj)) (x : T3) (h₀ : Heap) (L : Addr) (m : Str → Option Value) (s : Shared) (Q : Value → Shared → Prop) : Prop :=
  ∀ (t1 t2 t3 : Nat) D h' (tk' : Nat), 0 < t1 → 0 < t2 → 0 < t3 → 0 < tk' → Fr h₀ L h' m → News h₀ L h' ((D, tupF x.1 x.2.1 x.2.2 t1 t2 t3) :: news) → (∀ p ∈ news, p.1 < D) → Q (.ref D) { s with heap := h', toks := tk' }
theorem retT {h₀ h' : Heap} {L D : Addr} {m : Str → Option Value} {news : List (Addr × Obj)} {s : Shared} {Q : Value → Shared → Prop} {t1 t2 t3 : Nat} {tk' : Nat} {x : T3} {a b c : UInt64}
   (hret : RetT news x h₀ L m s Q) (F : Fr h₀ L h' m) (N : News h₀ L h' ((D, tupF a b c t1 t2 t3) :: news)) (l : ∀ p ∈ news, p.1 < D) (p1 : 0 < t1) (p2 : 0 < t2) (p3 : 0 < t3) (hk : 0 < tk') (e : (a, b, c) = x) : Q (.ref D) { s with heap := h', toks := tk' } := by
  subst e
  exact hret t1 t2 t3 D h' tk' p1 p2 p3 hk F N l
theorem ne_true_of {b : Bool} (h : b = false) : ¬ b = true := by rw [h]; exact Bool.false_ne_true
section
variable {prog : Program} {w : World} {A : Around} {E : Value → Shared → Prop} {s : Shared}
theorem args_max3 (a b c : Value) : argsOk "max" ⟨[a, b, c], []⟩ := by unfold argsOk; kernel_rfl
theorem call_max_three {a b c : Value} {Q : Value → Shared → Prop}
    (h : wpAny (model prog w) A.in1 (pyIter (.ref s.heap.objs.size)) (fun it s₂ => ∃ I fp wr n P St bt, it = .ref I ∧ Walks prog w A.in1 I fp wr n P St ∧ St 0 s₂.heap ∧ (∀ b ∈ fp, b < s₂.heap.objs.size) ∧ 0 < n ∧ CmpOf prog w A.in1 .Gt P bt ∧
      ∀ v h' tk, P (argBest bt (n - 1)) v → (∀ b o, b ∉ wr → s₂.heap.get? b = some o → h'.get? b = some o) → Q v { s₂ with heap := h', toks := tk }) E
      { s with heap := s.heap.push { cls := .type "tuple", data := .seq #[a, b, c] } }) :
    wpAny (model prog w) A (call (.builtin "max") [a, b, c]) Q E s := by
  have hname : (toString "max" ++ toString ".loop" : String) = "max.loop" := by decide
  refine call_function_tree F.kind_max F.plain_max F.entry_max (args_max3 _ _ _) ?_
  show wpAny _ A.in1 (Builtin.Builtins.bindParams "max" ["key", "default"] 0 ⟨[], []⟩ >>= _) _ _ s
  refine wpAny_bind (wpAny_of_eq (show Builtin.Builtins.bindParams "max" ["key", "default"] 0 ⟨[], []⟩ = pure [none, none] from rfl) ?_)
  show wpAny _ A.in1 (newTuple [a, b, c] >>= _) _ _ s
  refine wpAny_bind (wpAny_newObj_type ?_)
  refine wpAny_bind (wpAny_mono h (fun it s₂ h₂ => ?_) fun _ _ e => e)
  obtain ⟨I, fp, wr, n, P, St, bt, rfl, W, hst, hfp, hn, hcmp, hQ⟩ := h₂
  refine wpAny_bind (wpAny_newObj_type ?_)
  have hSf : s₂.heap.objs.size ∉ fp := fun hm => Nat.lt_irrefl _ (hfp _ hm)
  rw [hname]
  refine wpAny_pure ⟨plainId_quiet F.plain_max_loop _, codeAny_max_loop_first W bt hcmp s₂.heap.objs.size hSf hn (W.frame _ _ _ hst fun b _ o e => Heap.get?_push_of_some _ e) (Heap.get?_push_size _ rfl) fun v h' tk hP hk => ?_⟩
  exact hQ v h' tk hP fun b o hbw e => hk b o hbw (Nat.ne_of_lt (Heap.lt_size e)) (Heap.get?_push_of_some _ e)
def maxV (a b : Value) : Value := if ltV a b then b else a
theorem max_three_num {Q : Value → Shared → Prop} {a b c : Value} (hh : A.handled = none) (ha : NumV a) (hb : NumV b) (hc : NumV c)
    (h : ∀ h' tk, (∀ c o, s.heap.get? c = some o → h'.get? c = some o) → Q (maxV (maxV a b) c) { s with heap := h', toks := tk }) :
    wpAny (model prog w) A (call (.builtin "max") [a, b, c]) Q E s := by
  have hT : (s.heap.push { cls := .type "tuple", data := .seq #[a, b, c] }).IsTuple s.heap.objs.size #[a, b, c] := ⟨_, Heap.get?_push_size _ rfl, rfl, 0, rfl⟩
  refine call_max_three (wpAny_pyIter_tuple hT ?_)
  have hsz : (s.heap.push { cls := .type "tuple", data := .seq #[a, b, c] }).objs.size = s.heap.objs.size + 1 := Heap.size_push ..
  refine ⟨_, [_, s.heap.objs.size], [_], _, _, _, _, rfl, Walks.tuple (A := A.in1) hh _ s.heap.objs.size (by rw [hsz]; exact Nat.ne_of_lt (Nat.lt_succ_self _)) #[a, b, c],
    ⟨⟨_, Heap.get?_push_size _ rfl, rfl, rfl⟩, hT.push _⟩, fun c hc => ?_, by simp, cmpOf_gt #[a, b, c] (by simp [ha, hb, hc]), fun v h' tk hP hk => ?_⟩
  · show c < ((s.heap.push _).push _).objs.size
    rw [Heap.size_push, hsz]
    rcases List.mem_cons.mp hc with rfl | hc
    · rw [hsz]; exact Nat.lt_succ_self _
    · rcases List.mem_cons.mp hc with rfl | hc
      · exact Nat.lt_succ_of_lt (Nat.lt_succ_self _)
      · cases hc
  · have hold : ∀ c o, s.heap.get? c = some o → h'.get? c = some o := fun c o e => by
      refine hk c o (fun hm => ?_) (Heap.get?_push_of_some _ (Heap.get?_push_of_some _ e))
      rcases List.mem_cons.mp hm with e1 | hm
      · have := Heap.lt_size e; rw [e1, hsz] at this; exact Nat.lt_irrefl _ (Nat.lt_of_succ_lt this)
      · cases hm
    have := h h' tk hold
    have hv : v = maxV (maxV a b) c := by
      unfold maxV
      cases h1 : ltV a b <;> cases h2 : ltV b c <;> cases h3 : ltV a c <;> simp [argBest, h1, h2, h3] at hP <;> subst hP <;> simp [h1, h2, h3]
    rw [hv]; exact this
theorem max_three_ff {Q : Value → Shared → Prop} {x y z : UInt64} {t u r : Tok} {h₀ : Heap} {L : Addr} {m : Str → Option Value} {news : List (Addr × Obj)}
    (hh : A.handled = none) (F : Fr h₀ L s.heap m) (N : News h₀ L s.heap news) (p0 : 0 < s.toks) (p1 : (0 : Nat) < t) (p2 : (0 : Nat) < u) (p3 : (0 : Nat) < r)
    (h : ∀ h' (tk v : Nat), 0 < tk → 0 < v → Fr h₀ L h' m → News h₀ L h' news → Q (.float (maxF (maxF x y) z) v) { s with heap := h', toks := tk }) :
    wpAny (model prog w) A (call (.builtin "max") [.float x t, .float y u, .float z r]) Q E s :=
  wpAny_up 1 p0 (max_three_num hh (.float x t) (.float y u) (.float z r) fun h' tk kp hpos => by
    have e1 : ∃ v : Nat, 0 < v ∧ maxV (.float x t) (.float y u) = .float (maxF x y) v := by
      unfold maxV maxF ltV; simp only []; split
      · exact ⟨u, p2, rfl⟩
      · exact ⟨t, p1, rfl⟩
    obtain ⟨v1, q1, e1⟩ := e1
    have e2 : ∃ v : Nat, 0 < v ∧ maxV (.float (maxF x y) v1) (.float z r) = .float (maxF (maxF x y) z) v := by
      rw [show maxF (maxF x y) z = (if (Float64.cmp (maxF x y) z == some .lt) = true then z else maxF x y) from rfl]
      unfold maxV ltV; simp only []; split
      · exact ⟨r, p3, rfl⟩
      · exact ⟨v1, q1, rfl⟩
    obtain ⟨v2, q2, e2⟩ := e2
    rw [e1, e2]
    exact h h' tk v2 hpos q2 (F.grownK kp) (N.grown kp))
theorem args_min3 (a b c : Value) : argsOk "min" ⟨[a, b, c], []⟩ := by unfold argsOk; kernel_rfl
theorem call_min_three {a b c : Value} {Q : Value → Shared → Prop}
    (h : wpAny (model prog w) A.in1 (pyIter (.ref s.heap.objs.size)) (fun it s₂ => ∃ I fp wr n P St bt, it = .ref I ∧ Walks prog w A.in1 I fp wr n P St ∧ St 0 s₂.heap ∧ (∀ b ∈ fp, b < s₂.heap.objs.size) ∧ 0 < n ∧ CmpOf prog w A.in1 .Lt P bt ∧
      ∀ v h' tk, P (argBest bt (n - 1)) v → (∀ b o, b ∉ wr → s₂.heap.get? b = some o → h'.get? b = some o) → Q v { s₂ with heap := h', toks := tk }) E
      { s with heap := s.heap.push { cls := .type "tuple", data := .seq #[a, b, c] } }) :
    wpAny (model prog w) A (call (.builtin "min") [a, b, c]) Q E s := by
  have hname : (toString "min" ++ toString ".loop" : String) = "min.loop" := by decide
  refine call_function_tree F.kind_min F.plain_min F.entry_min (args_min3 _ _ _) ?_
  show wpAny _ A.in1 (Builtin.Builtins.bindParams "min" ["key", "default"] 0 ⟨[], []⟩ >>= _) _ _ s
  refine wpAny_bind (wpAny_of_eq (show Builtin.Builtins.bindParams "min" ["key", "default"] 0 ⟨[], []⟩ = pure [none, none] from rfl) ?_)
  show wpAny _ A.in1 (newTuple [a, b, c] >>= _) _ _ s
  refine wpAny_bind (wpAny_newObj_type ?_)
  refine wpAny_bind (wpAny_mono h (fun it s₂ h₂ => ?_) fun _ _ e => e)
  obtain ⟨I, fp, wr, n, P, St, bt, rfl, W, hst, hfp, hn, hcmp, hQ⟩ := h₂
  refine wpAny_bind (wpAny_newObj_type ?_)
  have hSf : s₂.heap.objs.size ∉ fp := fun hm => Nat.lt_irrefl _ (hfp _ hm)
  rw [hname]
  refine wpAny_pure ⟨plainId_quiet F.plain_min_loop _, codeAny_min_loop_first W bt hcmp s₂.heap.objs.size hSf hn (W.frame _ _ _ hst fun b _ o e => Heap.get?_push_of_some _ e) (Heap.get?_push_size _ rfl) fun v h' tk hP hk => ?_⟩
  exact hQ v h' tk hP fun b o hbw e => hk b o hbw (Nat.ne_of_lt (Heap.lt_size e)) (Heap.get?_push_of_some _ e)
def minV (a b : Value) : Value := if ltV b a then b else a
theorem min_three_num {Q : Value → Shared → Prop} {a b c : Value} (hh : A.handled = none) (ha : NumV a) (hb : NumV b) (hc : NumV c)
    (h : ∀ h' tk, (∀ c o, s.heap.get? c = some o → h'.get? c = some o) → Q (minV (minV a b) c) { s with heap := h', toks := tk }) :
    wpAny (model prog w) A (call (.builtin "min") [a, b, c]) Q E s := by
  have hT : (s.heap.push { cls := .type "tuple", data := .seq #[a, b, c] }).IsTuple s.heap.objs.size #[a, b, c] := ⟨_, Heap.get?_push_size _ rfl, rfl, 0, rfl⟩
  refine call_min_three (wpAny_pyIter_tuple hT ?_)
  have hsz : (s.heap.push { cls := .type "tuple", data := .seq #[a, b, c] }).objs.size = s.heap.objs.size + 1 := Heap.size_push ..
  refine ⟨_, [_, s.heap.objs.size], [_], _, _, _, _, rfl, Walks.tuple (A := A.in1) hh _ s.heap.objs.size (by rw [hsz]; exact Nat.ne_of_lt (Nat.lt_succ_self _)) #[a, b, c],
    ⟨⟨_, Heap.get?_push_size _ rfl, rfl, rfl⟩, hT.push _⟩, fun c hc => ?_, by simp, cmpOf_lt #[a, b, c] (by simp [ha, hb, hc]), fun v h' tk hP hk => ?_⟩
  · show c < ((s.heap.push _).push _).objs.size
    rw [Heap.size_push, hsz]
    rcases List.mem_cons.mp hc with rfl | hc
    · rw [hsz]; exact Nat.lt_succ_self _
    · rcases List.mem_cons.mp hc with rfl | hc
      · exact Nat.lt_succ_of_lt (Nat.lt_succ_self _)
      · cases hc
  · have hold : ∀ c o, s.heap.get? c = some o → h'.get? c = some o := fun c o e => by
      refine hk c o (fun hm => ?_) (Heap.get?_push_of_some _ (Heap.get?_push_of_some _ e))
      rcases List.mem_cons.mp hm with e1 | hm
      · have := Heap.lt_size e; rw [e1, hsz] at this; exact Nat.lt_irrefl _ (Nat.lt_of_succ_lt this)
      · cases hm
    have := h h' tk hold
    have hv : v = minV (minV a b) c := by
      unfold minV
      cases h1 : ltV b a <;> cases h2 : ltV c b <;> cases h3 : ltV c a <;> simp [argBest, h1, h2, h3] at hP <;> subst hP <;> simp [h1, h2, h3]
    rw [hv]; exact this
theorem min_three_ff {Q : Value → Shared → Prop} {x y z : UInt64} {t u r : Tok} {h₀ : Heap} {L : Addr} {m : Str → Option Value} {news : List (Addr × Obj)}
    (hh : A.handled = none) (F : Fr h₀ L s.heap m) (N : News h₀ L s.heap news) (p0 : 0 < s.toks) (p1 : (0 : Nat) < t) (p2 : (0 : Nat) < u) (p3 : (0 : Nat) < r)
    (h : ∀ h' (tk v : Nat), 0 < tk → 0 < v → Fr h₀ L h' m → News h₀ L h' news → Q (.float (minF (minF x y) z) v) { s with heap := h', toks := tk }) :
    wpAny (model prog w) A (call (.builtin "min") [.float x t, .float y u, .float z r]) Q E s :=
  wpAny_up 1 p0 (min_three_num hh (.float x t) (.float y u) (.float z r) fun h' tk kp hpos => by
    have e1 : ∃ v : Nat, 0 < v ∧ minV (.float x t) (.float y u) = .float (minF x y) v := by
      unfold minV minF ltV; simp only []; split
      · exact ⟨u, p2, rfl⟩
      · exact ⟨t, p1, rfl⟩
    obtain ⟨v1, q1, e1⟩ := e1
    have e2 : ∃ v : Nat, 0 < v ∧ minV (.float (minF x y) v1) (.float z r) = .float (minF (minF x y) z) v := by
      rw [show minF (minF x y) z = (if (Float64.cmp z (minF x y) == some .lt) = true then z else minF x y) from rfl]
      unfold minV ltV; simp only []; split
      · exact ⟨r, p3, rfl⟩
      · exact ⟨v1, q1, rfl⟩
    obtain ⟨v2, q2, e2⟩ := e2
    rw [e1, e2]
    exact h h' tk v2 hpos q2 (F.grownK kp) (N.grown kp))
end
structure NKeep (h₀ : Heap) (L : Addr) (g : Heap) (news : List (Addr × Obj)) : Prop where
  out : News h₀ L g news
section
variable {prog : Program} {w : World} {A A₀ : Around} {s : Shared} {K : Frag} {L : Addr} {h₀ base : Heap} {m mg mb : Str → Option Value} {news : List (Addr × Obj)} {p : Program} {loose : List Str} {mean : ExcName → Option Value}
theorem code_free {env : Env} {outer : List Env} {R : Result → Shared → Prop} {name qual : Str} {params : Arguments} {body : List Stmt} {scope : Scope} {dV kV doc pm cdv ct oc : Value} {an od : Option Addr} {osl : Array (Option Value)} {f : Addr} {args : Args} {binds : List (Str × Value)}
    (B : Below A₀ base outer h₀) (F : Fr h₀ L s.heap m) (X₀ : K.In h₀) (N : News h₀ L s.heap news) (T : Top p loose mean mg mb h₀) (hA : A.frames = some (env :: outer)) (hf : env.frame = some L) (hke : env.scope.kind = .function)
    (ho : K.lookup f = some ⟨oc, od, .func (fnOf name qual params body scope dV kV doc pm an cdv ct), osl⟩) (hcd : codeIn K cdv qual = true) (hroom : A.depth < recursionLimit)
    (hbind : BindsTo s (fnOf name qual params body scope dV kV doc pm an cdv ct) args binds) (hloc : ∀ y ∈ binds, scope.names.lookup y.1 = some .local)
    (h : ∀ g L' h₁, NKeep h₀ L g news → Fr h₀ L g m → Fr g L' h₁ (fun y => binds.reverse.lookup y) → News g L' h₁ [] → Below A base (env :: outer) g → K.In g → Top p loose mean mg mb g →
      wpAny (model prog w) (A.deeper (envOf qual scope L' f cdv)) (execs body (envOf qual scope L' f cdv))
        (fun fl s' => LeaveK h₀ L m g R (match fl with | .ret v => v | _ => .none) s')
        (fun e s' => wpAny (model prog w) (A.deeper (envOf qual scope L' f cdv)) (leaving (envOf qual scope L' f cdv) e) (fun _ s'' => R (.error e) s'') (fun e' s'' => R (.error e') s'') s')
        { s with heap := h₁, toks := s.toks + binds.length })
    (hco : scope.isCoroutine = false) (hgen : scope.isGenerator = false) (hk : scope.kind = .function)
    (hcell : ∀ x ∈ scope.names, x.2 ≠ .cell) : codeAny (model prog w) A (.call (.ref f) args) R s := by
  obtain ⟨FG, BG, st, lv⟩ := groundX (R := R) (news := []) (A := A) B F News.nil hA hf hke
  refine codeAny_call_def (fd := fnOf name qual params body scope dV kV doc pm an cdv ct) (body := body) (binds := binds) hroom ((X₀.keeps F.keep) _ _ ho) rfl (T.nolimit.keeps F.keep) (codeRec_of (X₀.keeps F.keep) hcd) rfl hbind hcell hloc (fun h₁ hns hk₁ => ?_) hco hgen hk
  exact wpAny_mono (h s.heap s.heap.objs.size h₁ ⟨N⟩ FG ⟨hns, hk₁, Nat.le_refl _⟩ News.nil BG (X₀.keeps st) (T.keeps st)) (fun fl s' hl => lv _ _ hl) fun _ _ y => y
end
/-- what the caller had is still there when the callee comes back -/
theorem newsBack {h₀ g h : Heap} {L L' : Addr} {m' : Str → Option Value} {news : List (Addr × Obj)} (N : NKeep h₀ L g news) (F : Fr g L' h m') : News h₀ L h news :=
  fun p hp => ⟨F.keep _ _ (N.out p hp).1, (N.out p hp).2⟩
theorem newsBoth {h₀ h : Heap} {L : Addr} {l news : List (Addr × Obj)} (N : News h₀ L h news) (N' : News h₀ L h l) : News h₀ L h (l ++ news) :=
  fun p hp => (List.mem_append.mp hp).elim (N' p) (N p)
open PySem.SeqAt in
theorem tup3_eqs {A : Around} {s : Shared} {x y z x' y' z' : UInt64} {t1 t2 t3 u1 u2 u3 : Nat} (hB : NoneBooked s.heap) (p1 : 0 < t1) (p2 : 0 < t2) (p3 : 0 < t3) (q1 : 0 < u1) (q2 : 0 < u2) (q3 : 0 < u3)
    (c1 : Float64.cmp x x' = some .eq) (c2 : Float64.cmp y y' = some .eq) (c3 : Float64.cmp z z' = some .eq) :
    ∀ j (h1 : j < (#[Value.float x t1, .float y t2, .float z t3] : Array Value).size) (h2 : j < (#[Value.float x' u1, .float y' u2, .float z' u3] : Array Value).size),
      EqAt A s (#[Value.float x t1, .float y t2, .float z t3] : Array Value)[j] (#[Value.float x' u1, .float y' u2, .float z' u3] : Array Value)[j] ((fun _ => true) j) := by
  intro j h1 h2
  match j, h1, h2 with
  | 0, _, _ => exact eqAt_float c1 p1 q1 hB
  | 1, _, _ => exact eqAt_float c2 p2 q2 hB
  | 2, _, _ => exact eqAt_float c3 p3 q3 hB
  | n + 3, h1, _ => exact absurd h1 (by simp only [List.size_toArray, List.length_cons, List.length_nil]; omega)
section
variable {prog : Program} {w : World} {A : Around} {E : Value → Shared → Prop} {s : Shared} {a b L : Addr} {h₀ : Heap} {news : List (Addr × Obj)} {x y z x' y' z' : UInt64} {t1 t2 t3 u1 u2 u3 : Nat} {Q : Value → Shared → Prop}
open PySem.SeqAt in
theorem eq_tup3 (N : News h₀ L s.heap news) (ha : (a, tupF x y z t1 t2 t3) ∈ news) (hb : (b, tupF x' y' z' u1 u2 u3) ∈ news) (hB : NoneBooked s.heap) (hu : A.units < cLine)
    (p1 : 0 < t1) (p2 : 0 < t2) (p3 : 0 < t3) (q1 : 0 < u1) (q2 : 0 < u2) (q3 : 0 < u3) (c1 : Float64.cmp x x' = some .eq) (c2 : Float64.cmp y y' = some .eq) (c3 : Float64.cmp z z' = some .eq)
    (h : Q (.bool true) s) : wpAny (model prog w) A (compareOp .Eq (.ref a) (.ref b)) Q E s := by
  have := RcAt.tuples (A := A) ⟨_, (N _ ha).1, rfl, 0, rfl⟩ ⟨_, (N _ hb).1, rfl, 0, rfl⟩ hu (tup3_eqs hB p1 p2 p3 q1 q2 q3 c1 c2 c3) prog w E Q
  exact cmp_ofEq (this h)
open PySem.SeqAt in
theorem ne_tup3 (N : News h₀ L s.heap news) (ha : (a, tupF x y z t1 t2 t3) ∈ news) (hb : (b, tupF x' y' z' u1 u2 u3) ∈ news) (hB : NoneBooked s.heap) (hu : A.units < cLine)
    (p1 : 0 < t1) (p2 : 0 < t2) (p3 : 0 < t3) (q1 : 0 < u1) (q2 : 0 < u2) (q3 : 0 < u3) (c1 : Float64.cmp x x' = some .eq) (c2 : Float64.cmp y y' = some .eq) (c3 : Float64.cmp z z' = some .eq)
    (h : Q (.bool false) s) : wpAny (model prog w) A (compareOp .NotEq (.ref a) (.ref b)) Q E s := by
  have := RcNeAt.tuples (A := A) ⟨_, (N _ ha).1, rfl, 0, rfl⟩ ⟨_, (N _ hb).1, rfl, 0, rfl⟩ hu (tup3_eqs hB p1 p2 p3 q1 q2 q3 c1 c2 c3) prog w E Q
  exact cmp_ofNotEq (this h)
end
end Mine
end
/- MyCon -/
section
open PySem PySem.W PyProof.Rows PySem.Spec PySem.Calls PySem.Flt
set_option maxRecDepth 100000
set_option maxHeartbeats 8000000
namespace Mine
local macro_rules | `(tactic| walk_at $s:str) => `(tactic| k_extra $s)
theorem c_v (w : World) (mean : ExcName → Option Value) (mg mb : Str → Option Value) (news : List (Addr × Obj)) (m1 m2 hue : UInt64) (t1 t2 t3 : Nat) (q1 : 0 < t1) (q2 : 0 < t2) (q3 : 0 < t3)  :
   FClaim w mean mg mb 35 news [.float m1 t1, .float m2 t2, .float hue t3] 1 (RetF news (vF m1 m2 hue)) := by
  unfold FClaim
  k_with_none
  (k_with "execs cons" => (k_here; (try ((with_reducible rename (_ * _ ≠ (0 : Int)) => hne); replace hne := Ne0.mk hne)); refine execs_pos (by dsimp only; first | with_reducible assumption | exact Nat.succ_pos _ | omega) ?_; intro tk hTk; (try dsimp only); (try k_fold)))
  (k_with "PosThen" => (refine PosThen.of (fun hTk => ?_); (try dsimp only at hTk); (try dsimp only)))
  (k_with "call builtin:max" => ((with_reducible show wpAny _ _ (call _ [Value.float _ _, Value.float _ _, Value.float _ _]) _ _ _); (rename News _ _ _ _ => N'); (rename Fr _ _ _ _ => F'); refine max_three_ff rfl F' N' (by first | with_reducible assumption | exact Nat.succ_pos _ | (dsimp only; omega)) (by first | with_reducible assumption | exact Nat.succ_pos _ | omega) (by first | with_reducible assumption | exact Nat.succ_pos _ | omega) (by first | with_reducible assumption | exact Nat.succ_pos _ | omega) ?_; clear N'; intro _ _ _ _ _ _ _))
  (k_with "call builtin:min" => ((with_reducible show wpAny _ _ (call _ [Value.float _ _, Value.float _ _, Value.float _ _]) _ _ _); (rename News _ _ _ _ => N'); (rename Fr _ _ _ _ => F'); refine min_three_ff rfl F' N' (by first | with_reducible assumption | exact Nat.succ_pos _ | (dsimp only; omega)) (by first | with_reducible assumption | exact Nat.succ_pos _ | omega) (by first | with_reducible assumption | exact Nat.succ_pos _ | omega) (by first | with_reducible assumption | exact Nat.succ_pos _ | omega) ?_; clear N'; intro _ _ _ _ _ _ _))
  w_top off
  k_fill
  intro dp un gd cn cs a ccd cl outer A₀ base h₀ L m st Q E B F X N T hk hd hu hs hret
  refine wpAny_call ?_
  k_dflt cell_enter
  k_steps
  all_goals (refine retF hret (by first | with_reducible assumption | exact Nat.succ_pos _ | omega) (by first | with_reducible assumption | exact Nat.succ_pos _ | omega) (by k_asm) (by k_asm) ?_; unfold vF; (repeat (first | rw [if_pos (by with_reducible assumption)] | rw [if_neg (by with_reducible assumption)] | rw [if_neg (ne_true_of (by with_reducible assumption))])); first | done | rfl)
theorem c_hsv (w : World) (mean : ExcName → Option Value) (mg mb : Str → Option Value) (news : List (Addr × Obj)) (h s v : UInt64) (t1 t2 t3 : Nat) (q1 : 0 < t1) (q2 : 0 < t2) (q3 : 0 < t3) (hf : Float64.isFinite (Float64.mul h 4618441417868443648) = true) (hi : (hsvI h).natAbs < 2 ^ 64) :
   FClaim w mean mg mb 49 news [.float h t1, .float s t2, .float v t3] 1 (RetT news (hsvF h s v)) := by
  unfold FClaim
  k_with_none
  (k_with "execs cons" => (k_here; (try ((with_reducible rename (_ * _ ≠ (0 : Int)) => hne); replace hne := Ne0.mk hne)); refine execs_pos (by dsimp only; first | with_reducible assumption | exact Nat.succ_pos _ | omega) ?_; intro tk hTk; (try dsimp only); (try k_fold)))
  (k_with "PosThen" => (refine PosThen.of (fun hTk => ?_); (try dsimp only at hTk); (try dsimp only)))
  (k_with "call builtin:max" => ((with_reducible show wpAny _ _ (call _ [Value.float _ _, Value.float _ _, Value.float _ _]) _ _ _); (rename News _ _ _ _ => N'); (rename Fr _ _ _ _ => F'); refine max_three_ff rfl F' N' (by first | with_reducible assumption | exact Nat.succ_pos _ | (dsimp only; omega)) (by first | with_reducible assumption | exact Nat.succ_pos _ | omega) (by first | with_reducible assumption | exact Nat.succ_pos _ | omega) (by first | with_reducible assumption | exact Nat.succ_pos _ | omega) ?_; clear N'; intro _ _ _ _ _ _ _))
  (k_with "call builtin:min" => ((with_reducible show wpAny _ _ (call _ [Value.float _ _, Value.float _ _, Value.float _ _]) _ _ _); (rename News _ _ _ _ => N'); (rename Fr _ _ _ _ => F'); refine min_three_ff rfl F' N' (by first | with_reducible assumption | exact Nat.succ_pos _ | (dsimp only; omega)) (by first | with_reducible assumption | exact Nat.succ_pos _ | omega) (by first | with_reducible assumption | exact Nat.succ_pos _ | omega) (by first | with_reducible assumption | exact Nat.succ_pos _ | omega) ?_; clear N'; intro _ _ _ _ _ _ _))
  w_top off
  k_fill
  intro dp un gd cn cs a ccd cl outer A₀ base h₀ L m st Q E B F X N T hk hd hu hs hret
  unfold hsvI at hi
  refine wpAny_call ?_
  k_dflt cell_enter
  k_steps
  all_goals first
    | (exfalso; have hh := Flt.not_nan_of_finite hf; have := ‹Float64.isNaN _ = true›; rw [hh] at this; exact absurd this (by decide))
    | (exfalso; have hh := Flt.not_inf_of_finite hf; have := ‹Float64.isInf _ = true›; rw [hh] at this; exact absurd this (by decide))
    | (exfalso; (rename (2 ^ 1024 - 2 ^ 970 ≤ Int.natAbs _) => hbig); exact absurd (Nat.lt_of_le_of_lt hbig hi) (by decide +kernel))
    | (refine retT hret (by k_asm) (by k_asm) (by assumption) (by first | with_reducible assumption | exact Nat.succ_pos _ | omega | (dsimp only; omega)) (by first | with_reducible assumption | exact Nat.succ_pos _ | omega | (dsimp only; omega)) (by first | with_reducible assumption | exact Nat.succ_pos _ | omega | (dsimp only; omega)) (by first | with_reducible assumption | exact Nat.succ_pos _ | omega | (dsimp only; omega)) ?_; unfold hsvF hsvI; (repeat (first | rw [if_pos (by with_reducible assumption)] | rw [if_neg (by with_reducible assumption)] | rw [if_neg (ne_true_of (by with_reducible assumption))])); first | done | ((try unfold hsvt); (try unfold hsvq); (try unfold hsvp); (try unfold hsvf); (try unfold hsvI); rfl))
    | (exfalso; (have hm1 := Int.fmod_nonneg_of_pos (hsvI h) (show (0:Int) < 6 by decide)); (have hm2 := Int.fmod_lt_of_pos (hsvI h) (show (0:Int) < 6 by decide)); unfold hsvI at hm1 hm2; omega)
theorem c_rgbhsv (w : World) (mean : ExcName → Option Value) (mg mb : Str → Option Value) (news : List (Addr × Obj)) (r g b : UInt64) (t1 t2 t3 : Nat) (q1 : 0 < t1) (q2 : 0 < t2) (q3 : 0 < t3) (h1 : (Float64.cmp (min3 r g b) (max3 r g b) == some .eq) = false → Float64.isZero (Float64.sub (max3 r g b) (min3 r g b)) = false) (h2 : (Float64.cmp (min3 r g b) (max3 r g b) == some .eq) = false → Float64.isZero (max3 r g b) = false) :
   FClaim w mean mg mb 42 news [.float r t1, .float g t2, .float b t3] 1 (RetT news (rgbhsvF r g b)) := by
  unfold FClaim
  k_with_none
  (k_with "execs cons" => (k_here; (try ((with_reducible rename (_ * _ ≠ (0 : Int)) => hne); replace hne := Ne0.mk hne)); refine execs_pos (by dsimp only; first | with_reducible assumption | exact Nat.succ_pos _ | omega) ?_; intro tk hTk; (try dsimp only); (try k_fold)))
  (k_with "PosThen" => (refine PosThen.of (fun hTk => ?_); (try dsimp only at hTk); (try dsimp only)))
  (k_with "call builtin:max" => ((with_reducible show wpAny _ _ (call _ [Value.float _ _, Value.float _ _, Value.float _ _]) _ _ _); (rename News _ _ _ _ => N'); (rename Fr _ _ _ _ => F'); refine max_three_ff rfl F' N' (by first | with_reducible assumption | exact Nat.succ_pos _ | (dsimp only; omega)) (by first | with_reducible assumption | exact Nat.succ_pos _ | omega) (by first | with_reducible assumption | exact Nat.succ_pos _ | omega) (by first | with_reducible assumption | exact Nat.succ_pos _ | omega) ?_; clear N'; intro _ _ _ _ _ _ _))
  (k_with "call builtin:min" => ((with_reducible show wpAny _ _ (call _ [Value.float _ _, Value.float _ _, Value.float _ _]) _ _ _); (rename News _ _ _ _ => N'); (rename Fr _ _ _ _ => F'); refine min_three_ff rfl F' N' (by first | with_reducible assumption | exact Nat.succ_pos _ | (dsimp only; omega)) (by first | with_reducible assumption | exact Nat.succ_pos _ | omega) (by first | with_reducible assumption | exact Nat.succ_pos _ | omega) (by first | with_reducible assumption | exact Nat.succ_pos _ | omega) ?_; clear N'; intro _ _ _ _ _ _ _))
  w_top off
  k_fill
  intro dp un gd cn cs a ccd cl outer A₀ base h₀ L m st Q E B F X N T hk hd hu hs hret
  unfold max3 min3 at h1 h2
  refine wpAny_call ?_
  k_dflt cell_enter
  k_steps
  all_goals first
    | (refine retT hret (by k_asm) (by k_asm) (by assumption) (by first | with_reducible assumption | exact Nat.succ_pos _ | omega | (dsimp only; omega)) (by first | with_reducible assumption | exact Nat.succ_pos _ | omega | (dsimp only; omega)) (by first | with_reducible assumption | exact Nat.succ_pos _ | omega | (dsimp only; omega)) (by first | with_reducible assumption | exact Nat.succ_pos _ | omega | (dsimp only; omega)) ?_; unfold rgbhsvF hueF max3 min3; (repeat (first | rw [if_pos (by with_reducible assumption)] | rw [if_neg (by with_reducible assumption)] | rw [if_neg (ne_true_of (by with_reducible assumption))])); first | done | rfl)
    | (exfalso; exact absurd (by with_reducible assumption) (ne_true_of (h1 (by with_reducible assumption))))
    | (exfalso; exact absurd (by with_reducible assumption) (ne_true_of (h2 (by with_reducible assumption))))
theorem c_rgbhls (w : World) (mean : ExcName → Option Value) (mg mb : Str → Option Value) (news : List (Addr × Obj)) (r g b : UInt64) (t1 t2 t3 : Nat) (q1 : 0 < t1) (q2 : 0 < t2) (q3 : 0 < t3) (h1 : (Float64.cmp (min3 r g b) (max3 r g b) == some .eq) = false → Float64.isZero (Float64.sub (max3 r g b) (min3 r g b)) = false) (h2 : (Float64.cmp (min3 r g b) (max3 r g b) == some .eq) = false → (Float64.cmp (hlsL (max3 r g b) (min3 r g b)) 4602678819172646912 == some .lt || Float64.cmp (hlsL (max3 r g b) (min3 r g b)) 4602678819172646912 == some .eq) = true → Float64.isZero (Float64.add (max3 r g b) (min3 r g b)) = false) (h3 : (Float64.cmp (min3 r g b) (max3 r g b) == some .eq) = false → (Float64.cmp (hlsL (max3 r g b) (min3 r g b)) 4602678819172646912 == some .lt || Float64.cmp (hlsL (max3 r g b) (min3 r g b)) 4602678819172646912 == some .eq) = false → Float64.isZero (Float64.sub (Float64.sub 4611686018427387904 (max3 r g b)) (min3 r g b)) = false) :
   FClaim w mean mg mb 21 news [.float r t1, .float g t2, .float b t3] 1 (RetT news (rgbhlsF r g b)) := by
  unfold FClaim
  k_with_none
  (k_with "execs cons" => (k_here; (try ((with_reducible rename (_ * _ ≠ (0 : Int)) => hne); replace hne := Ne0.mk hne)); refine execs_pos (by dsimp only; first | with_reducible assumption | exact Nat.succ_pos _ | omega) ?_; intro tk hTk; (try dsimp only); (try k_fold)))
  (k_with "PosThen" => (refine PosThen.of (fun hTk => ?_); (try dsimp only at hTk); (try dsimp only)))
  (k_with "call builtin:max" => ((with_reducible show wpAny _ _ (call _ [Value.float _ _, Value.float _ _, Value.float _ _]) _ _ _); (rename News _ _ _ _ => N'); (rename Fr _ _ _ _ => F'); refine max_three_ff rfl F' N' (by first | with_reducible assumption | exact Nat.succ_pos _ | (dsimp only; omega)) (by first | with_reducible assumption | exact Nat.succ_pos _ | omega) (by first | with_reducible assumption | exact Nat.succ_pos _ | omega) (by first | with_reducible assumption | exact Nat.succ_pos _ | omega) ?_; clear N'; intro _ _ _ _ _ _ _))
  (k_with "call builtin:min" => ((with_reducible show wpAny _ _ (call _ [Value.float _ _, Value.float _ _, Value.float _ _]) _ _ _); (rename News _ _ _ _ => N'); (rename Fr _ _ _ _ => F'); refine min_three_ff rfl F' N' (by first | with_reducible assumption | exact Nat.succ_pos _ | (dsimp only; omega)) (by first | with_reducible assumption | exact Nat.succ_pos _ | omega) (by first | with_reducible assumption | exact Nat.succ_pos _ | omega) (by first | with_reducible assumption | exact Nat.succ_pos _ | omega) ?_; clear N'; intro _ _ _ _ _ _ _))
  w_top off
  k_fill
  intro dp un gd cn cs a ccd cl outer A₀ base h₀ L m st Q E B F X N T hk hd hu hs hret
  unfold hlsL at h2 h3
  unfold max3 min3 at h1 h2 h3
  refine wpAny_call ?_
  k_dflt cell_enter
  k_steps
  all_goals first
    | (refine retT hret (by k_asm) (by k_asm) (by assumption) (by first | with_reducible assumption | exact Nat.succ_pos _ | omega | (dsimp only; omega)) (by first | with_reducible assumption | exact Nat.succ_pos _ | omega | (dsimp only; omega)) (by first | with_reducible assumption | exact Nat.succ_pos _ | omega | (dsimp only; omega)) (by first | with_reducible assumption | exact Nat.succ_pos _ | omega | (dsimp only; omega)) ?_; unfold rgbhlsF hueF hlsS hlsL max3 min3; (repeat (first | rw [if_pos (by with_reducible assumption)] | rw [if_neg (by with_reducible assumption)] | rw [if_neg (ne_true_of (by with_reducible assumption))])); first | done | rfl)
    | (exfalso; exact absurd (by with_reducible assumption) (ne_true_of (h1 (by with_reducible assumption))))
    | (exfalso; exact absurd (by with_reducible assumption) (ne_true_of (h2 (by with_reducible assumption) (by with_reducible assumption))))
    | (exfalso; exact absurd (by with_reducible assumption) (ne_true_of (h3 (by with_reducible assumption) (by with_reducible assumption))))
theorem c_hls (w : World) (mean : ExcName → Option Value) (mg mb : Str → Option Value) (news : List (Addr × Obj)) (h l s : UInt64) (t1 t2 t3 : Nat) (q1 : 0 < t1) (q2 : 0 < t2) (q3 : 0 < t3)  :
   FClaim w mean mg mb 28 news [.float h t1, .float l t2, .float s t3] 2 (RetT news (hlsF h l s)) := by
  unfold FClaim
  k_with_none
  (k_with "execs cons" => (k_here; (try ((with_reducible rename (_ * _ ≠ (0 : Int)) => hne); replace hne := Ne0.mk hne)); refine execs_pos (by dsimp only; first | with_reducible assumption | exact Nat.succ_pos _ | omega) ?_; intro tk hTk; (try dsimp only); (try k_fold)))
  (k_with "PosThen" => (refine PosThen.of (fun hTk => ?_); (try dsimp only at hTk); (try dsimp only)))
  (k_with "call builtin:max" => ((with_reducible show wpAny _ _ (call _ [Value.float _ _, Value.float _ _, Value.float _ _]) _ _ _); (rename News _ _ _ _ => N'); (rename Fr _ _ _ _ => F'); refine max_three_ff rfl F' N' (by first | with_reducible assumption | exact Nat.succ_pos _ | (dsimp only; omega)) (by first | with_reducible assumption | exact Nat.succ_pos _ | omega) (by first | with_reducible assumption | exact Nat.succ_pos _ | omega) (by first | with_reducible assumption | exact Nat.succ_pos _ | omega) ?_; clear N'; intro _ _ _ _ _ _ _))
  (k_with "call builtin:min" => ((with_reducible show wpAny _ _ (call _ [Value.float _ _, Value.float _ _, Value.float _ _]) _ _ _); (rename News _ _ _ _ => N'); (rename Fr _ _ _ _ => F'); refine min_three_ff rfl F' N' (by first | with_reducible assumption | exact Nat.succ_pos _ | (dsimp only; omega)) (by first | with_reducible assumption | exact Nat.succ_pos _ | omega) (by first | with_reducible assumption | exact Nat.succ_pos _ | omega) (by first | with_reducible assumption | exact Nat.succ_pos _ | omega) ?_; clear N'; intro _ _ _ _ _ _ _))
  (k_with "call ref" => (k_here; (with_reducible show wpAny _ _ (call (Value.ref 35) _) _ _ _); k_dflt (refine useA (c_v _ _ _ _ _ _ _ _ _ _ _ (by first | with_reducible assumption | exact Nat.succ_pos _ | omega) (by first | with_reducible assumption | exact Nat.succ_pos _ | omega) (by first | with_reducible assumption | exact Nat.succ_pos _ | omega)) ?_; k_whole); intro t9 h9 tk9 hT9 hK9 F9 N9; (try dsimp only); (try k_fold)))
  w_top off
  k_fill
  intro dp un gd cn cs a ccd cl outer A₀ base h₀ L m st Q E B F X N T hk hd hu hs hret
  refine wpAny_call ?_
  k_dflt cell_enter
  k_steps
  all_goals (refine retT hret (by k_asm) (by k_asm) (by assumption) (by first | with_reducible assumption | exact Nat.succ_pos _ | omega | (dsimp only; omega)) (by first | with_reducible assumption | exact Nat.succ_pos _ | omega | (dsimp only; omega)) (by first | with_reducible assumption | exact Nat.succ_pos _ | omega | (dsimp only; omega)) (by first | with_reducible assumption | exact Nat.succ_pos _ | omega | (dsimp only; omega)) ?_; unfold hlsF m1F m2F; (repeat (first | rw [if_pos (by with_reducible assumption)] | rw [if_neg (by with_reducible assumption)] | rw [if_neg (ne_true_of (by with_reducible assumption))])); first | done | rfl)
theorem c_far (w : World) (mean : ExcName → Option Value) (mg mb : Str → Option Value) (news : List (Addr × Obj)) (place corner whole : Int) (t1 t2 t3 : Tok) (hw : 0 < whole) :
   FClaim w mean mg mb 63 news [.int place t1, .int corner t2, .int whole t3] 1 (RetI news (farI place corner whole)) := by
  unfold FClaim
  k_with_none
  (k_with "execs cons" => (k_here; (try ((with_reducible rename (_ * _ ≠ (0 : Int)) => hne); replace hne := Ne0.mk hne)); refine execs_pos (by dsimp only; first | with_reducible assumption | exact Nat.succ_pos _ | omega) ?_; intro tk hTk; (try dsimp only); (try k_fold)))
  (k_with "PosThen" => (refine PosThen.of (fun hTk => ?_); (try dsimp only at hTk); (try dsimp only)))
  (k_with "call builtin:max" => ((with_reducible show wpAny _ _ (call _ [Value.float _ _, Value.float _ _, Value.float _ _]) _ _ _); (rename News _ _ _ _ => N'); (rename Fr _ _ _ _ => F'); refine max_three_ff rfl F' N' (by first | with_reducible assumption | exact Nat.succ_pos _ | (dsimp only; omega)) (by first | with_reducible assumption | exact Nat.succ_pos _ | omega) (by first | with_reducible assumption | exact Nat.succ_pos _ | omega) (by first | with_reducible assumption | exact Nat.succ_pos _ | omega) ?_; clear N'; intro _ _ _ _ _ _ _))
  (k_with "call builtin:min" => ((with_reducible show wpAny _ _ (call _ [Value.float _ _, Value.float _ _, Value.float _ _]) _ _ _); (rename News _ _ _ _ => N'); (rename Fr _ _ _ _ => F'); refine min_three_ff rfl F' N' (by first | with_reducible assumption | exact Nat.succ_pos _ | (dsimp only; omega)) (by first | with_reducible assumption | exact Nat.succ_pos _ | omega) (by first | with_reducible assumption | exact Nat.succ_pos _ | omega) (by first | with_reducible assumption | exact Nat.succ_pos _ | omega) ?_; clear N'; intro _ _ _ _ _ _ _))
  (k_with "call ref" => (k_here; (with_reducible show wpAny _ _ (call (Value.ref 35) _) _ _ _); k_dflt (refine useA (c_v _ _ _ _ _ _ _ _ _ _ _ (by first | with_reducible assumption | exact Nat.succ_pos _ | omega) (by first | with_reducible assumption | exact Nat.succ_pos _ | omega) (by first | with_reducible assumption | exact Nat.succ_pos _ | omega)) ?_; k_whole); intro t9 h9 tk9 hT9 hK9 F9 N9; (try dsimp only); (try k_fold)))
  w_top off
  k_fill
  intro dp un gd cn cs a ccd cl outer A₀ base h₀ L m st Q E B F X N T hk hd hu hs hret
  refine wpAny_call ?_
  k_dflt cell_enter
  k_steps
  all_goals exact retI hret (by assumption) (by k_asm) (by k_asm) rfl
end Mine
end
/- MyVal -/
section
open PySem PySem.W PyProof.Rows PySem.Spec PySem.Calls PySem.Flt
set_option maxRecDepth 100000
set_option maxHeartbeats 8000000
namespace Mine
theorem div_ok {prog : Program} {w : World} {A : Around} {E : Value → Shared → Prop} {s : Shared} {Q : Value → Shared → Prop} {a b : Int} {t u : Tok} (hA : A.handled = none) (hfit : a.natAbs < 2 ^ 1023) (hb : b ≠ 0)
    (h : Q (.float (fr a b) s.toks) { s with toks := s.toks + 1 }) : wpAny (model prog w) A (binaryOp .Div (.int a t) (.int b u)) Q E s :=
  div_ii_fits hA hfit (fun h0 => absurd h0 hb) (fun _ _ => h)
/-- a value named by a variable: the terms of the walk stay small -/
structure IsV (r e : Int) : Prop where
  out : r = e
theorem IsV.ne0 {r e : Int} (h : IsV r e) (n : Ne0 e) : r ≠ 0 := by rw [h.out]; exact n.out
section
variable {prog : Program} {w : World} {A : Around} {E : Value → Shared → Prop} {s : Shared} {h₀ : Heap} {L : Addr} {m : Str → Option Value} {news : List (Addr × Obj)} {a b : Int} {t u : Tok} {Q : Value → Shared → Prop}
theorem max_two_G (hh : A.handled = none) (F : Fr h₀ L s.heap m) (N : News h₀ L s.heap news)
    (h : ∀ (r : Int) (t' : Tok) h' tk, IsV r (if b > a then b else a) → Fr h₀ L h' m → News h₀ L h' news → Q (.int r t') { s with heap := h', toks := tk }) :
    wpAny (model prog w) A (call (.builtin "max") [.int a t, .int b u]) Q E s := max_two_N hh F N fun h' tk F' N' => h _ _ h' tk ⟨rfl⟩ F' N'
theorem min_two_G (hh : A.handled = none) (F : Fr h₀ L s.heap m) (N : News h₀ L s.heap news)
    (h : ∀ (r : Int) (t' : Tok) h' tk, IsV r (if b < a then b else a) → Fr h₀ L h' m → News h₀ L h' news → Q (.int r t') { s with heap := h', toks := tk }) :
    wpAny (model prog w) A (call (.builtin "min") [.int a t, .int b u]) Q E s := min_two_N hh F N fun h' tk F' N' => h _ _ h' tk ⟨rfl⟩ F' N'
theorem mod_G (hb : b ≠ 0) (h : ∀ r, IsV r (a.fmod b) → Q (.int r s.toks) { s with toks := s.toks + 1 }) : wpAny (model prog w) A (binaryOp .Mod (.int a t) (.int b u)) Q E s := mod_int' hb (h _ ⟨rfl⟩)
theorem mul_G (hm : IntMulOk a b) (h : ∀ r, IsV r (a * b) → Q (.int r s.toks) { s with toks := s.toks + 1 }) : wpAny (model prog w) A (binaryOp .Mult (.int a t) (.int b u)) Q E s := mul_int (h _ ⟨rfl⟩) hm
end
theorem clamp_lo {r f x h : Int} (e2 : IsV f (if h < r then h else r)) (e1 : IsV r (if 0 > x then 0 else x)) (hh : 0 ≤ h) : 0 ≤ f := by
  rw [e2.out, e1.out]; (repeat' split) <;> omega
theorem clamp_hi {r f h : Int} (e2 : IsV f (if h < r then h else r)) (hh : h ≤ 1024) : f ≤ 1024 := by
  rw [e2.out]; split <;> omega
theorem fall_is {turn c hues pl r f : Int} (ep : IsV pl ((6 * turn).fmod (6 * hues))) (e2 : IsV f (if hues < r then hues else r)) (e1 : IsV r (if 0 > farI pl c (6 * hues) - hues then 0 else farI pl c (6 * hues) - hues)) : fallI turn c hues = f := by
  rw [e2.out, e1.out, ep.out]; rfl
/-- what hsv_to_rgb gives is what was told -/
theorem valin_cmp {turn share level hues parts pl ex a1 a2 a3 f1 f2 f3 : Int} (V : ValIn turn share level hues parts) (ep : IsV pl ((6 * turn).fmod (6 * hues))) (ee : IsV ex (parts * parts * hues))
    (y1 : IsV f1 (if hues < a1 then hues else a1)) (x1 : IsV a1 (if 0 > farI pl 0 (6 * hues) - hues then 0 else farI pl 0 (6 * hues) - hues))
    (y2 : IsV f2 (if hues < a2 then hues else a2)) (x2 : IsV a2 (if 0 > farI pl (2 * hues) (6 * hues) - hues then 0 else farI pl (2 * hues) (6 * hues) - hues))
    (y3 : IsV f3 (if hues < a3 then hues else a3)) (x3 : IsV a3 (if 0 > farI pl (4 * hues) (6 * hues) - hues then 0 else farI pl (4 * hues) (6 * hues) - hues)) :
    Float64.cmp (hsvF (fr turn hues) (fr share parts) (fr level parts)).1 (fr (level * (parts * hues - share * f1)) ex) = some .eq ∧ Float64.cmp (hsvF (fr turn hues) (fr share parts) (fr level parts)).2.1 (fr (level * (parts * hues - share * f2)) ex) = some .eq ∧
      Float64.cmp (hsvF (fr turn hues) (fr share parts) (fr level parts)).2.2 (fr (level * (parts * hues - share * f3)) ex) = some .eq := by
  have g1 := V.g1
  have g2 := V.g2
  have g3 := V.g3
  unfold toldV at g1 g2 g3
  rw [fall_is ep y1 x1, ← ee.out] at g1
  rw [fall_is ep y2 x2, ← ee.out] at g2
  rw [fall_is ep y3 x3, ← ee.out] at g3
  exact ⟨g1, g2, g3⟩
theorem bits_of {k : Int} (h1 : -1099511627776 ≤ k) (h2 : k ≤ 1099511627776) : Builtin.Int.intBits k ≤ 64 := intBits_le_64 (by omega) (by omega)
theorem fits_of {a : Int} (h1 : -18446744073709551616 < a) (h2 : a < 18446744073709551616) : a.natAbs < 2 ^ 1023 :=
  Nat.lt_trans (show a.natAbs < 18446744073709551616 by omega) (by decide +kernel)
theorem mul_le_of {x y X Y : Int} (hx : -X ≤ x) (hx' : x ≤ X) (hy : -Y ≤ y) (hy' : y ≤ Y) : -(X * Y) ≤ x * y ∧ x * y ≤ X * Y := by
  have h1 : (x * y).natAbs ≤ (X * Y).natAbs := by
    rw [Int.natAbs_mul, Int.natAbs_mul]; exact Nat.mul_le_mul (by omega) (by omega)
  have h2 : 0 ≤ X * Y := Int.mul_nonneg (by omega) (by omega)
  omega
theorem num_fits {l p h s f : Int} (b3 : -4096 ≤ s) (b4 : s ≤ 4096) (b5 : -4096 ≤ l) (b6 : l ≤ 4096) (b7 : 4 ≤ h) (b8 : h ≤ 1024) (b9 : 2 ≤ p) (b10 : p ≤ 1024) (f0 : 0 ≤ f) (f1 : f ≤ 1024) : (l * (p * h - s * f)).natAbs < 2 ^ 1023 := by
  have h1 := mul_le_of (x := p) (y := h) (X := 1024) (Y := 1024) (by omega) (by omega) (by omega) (by omega)
  have h2 := mul_le_of (x := s) (y := f) (X := 4096) (Y := 1024) (by omega) (by omega) (by omega) (by omega)
  have h3 := mul_le_of (x := l) (y := p * h - s * f) (X := 4096) (Y := 5242880) (by omega) (by omega) (by omega) (by omega)
  exact fits_of (by omega) (by omega)
theorem fmod_fits {a b : Int} (h1 : 0 < b) (h2 : b ≤ 1000000) : (a.fmod b).natAbs < 2 ^ 1023 := by
  have := Int.fmod_nonneg_of_pos a h1
  have := Int.fmod_lt_of_pos a h1
  exact fits_of (by omega) (by omega)
theorem mul_fits {a b : Int} (h1 : -1000000 ≤ a) (h2 : a ≤ 1000000) (h3 : -1000000 ≤ b) (h4 : b ≤ 1000000) : (a * b).natAbs < 2 ^ 1023 := by
  have h3 := mul_le_of (x := a) (y := b) (X := 1000000) (Y := 1000000) (by omega) (by omega) (by omega) (by omega)
  exact fits_of (by omega) (by omega)
section
variable {prog : Program} {w : World} {A : Around} {E : Value → Shared → Prop} {s : Shared} {a b L : Addr} {h₀ : Heap} {news : List (Addr × Obj)} {x y z x' y' z' : UInt64} {t1 t2 t3 u1 u2 u3 : Nat} {Q : Value → Shared → Prop}
theorem eq_tup3c (N : News h₀ L s.heap news) (ha : (a, tupF x y z t1 t2 t3) ∈ news) (hb : (b, tupF x' y' z' u1 u2 u3) ∈ news) (hB : NoneBooked s.heap) (hu : A.units < cLine)
    (p : 0 < t1 ∧ 0 < t2 ∧ 0 < t3 ∧ 0 < u1 ∧ 0 < u2 ∧ 0 < u3) (c : Float64.cmp x x' = some .eq ∧ Float64.cmp y y' = some .eq ∧ Float64.cmp z z' = some .eq)
    (h : Q (.bool true) s) : wpAny (model prog w) A (compareOp .Eq (.ref a) (.ref b)) Q E s := eq_tup3 N ha hb hB hu p.1 p.2.1 p.2.2.1 p.2.2.2.1 p.2.2.2.2.1 p.2.2.2.2.2 c.1 c.2.1 c.2.2 h
theorem ne_tup3c (N : News h₀ L s.heap news) (ha : (a, tupF x y z t1 t2 t3) ∈ news) (hb : (b, tupF x' y' z' u1 u2 u3) ∈ news) (hB : NoneBooked s.heap) (hu : A.units < cLine)
    (p : 0 < t1 ∧ 0 < t2 ∧ 0 < t3 ∧ 0 < u1 ∧ 0 < u2 ∧ 0 < u3) (c : Float64.cmp x x' = some .eq ∧ Float64.cmp y y' = some .eq ∧ Float64.cmp z z' = some .eq)
    (h : Q (.bool false) s) : wpAny (model prog w) A (compareOp .NotEq (.ref a) (.ref b)) Q E s := ne_tup3 N ha hb hB hu p.1 p.2.1 p.2.2.1 p.2.2.2.1 p.2.2.2.2.1 p.2.2.2.2.2 c.1 c.2.1 c.2.2 h
end
section
variable {prog : Program} {w : World} {A A₀ : Around} {s : Shared} {K : Frag} {L a : Addr} {h₀ : Heap} {m mg mb : Str → Option Value} {news : List (Addr × Obj)} {p : Program} {loose : List Str} {mean : ExcName → Option Value} {cn : Str} {cs : Scope} {ccd : Value}
theorem code_free0 {R : Result → Shared → Prop} {name qual : Str} {params : Arguments} {body : List Stmt} {scope : Scope} {dV kV doc pm cdv ct oc : Value} {an od : Option Addr} {osl : Array (Option Value)} {f : Addr} {args : Args} {binds : List (Str × Value)}
    (B : Below A₀ h₀ [] h₀) (F : Fr h₀ L s.heap m) (X₀ : K.In h₀) (N : News h₀ L s.heap news) (T : Top p loose mean mg mb h₀) (hA : A.frames = some [envOf cn cs L a ccd]) (hck : cs.kind = .function)
    (ho : K.lookup f = some ⟨oc, od, .func (fnOf name qual params body scope dV kV doc pm an cdv ct), osl⟩) (hcd : codeIn K cdv qual = true) (hroom : A.depth < recursionLimit)
    (hbind : BindsTo s (fnOf name qual params body scope dV kV doc pm an cdv ct) args binds) (hloc : ∀ y ∈ binds, scope.names.lookup y.1 = some .local)
    (h : ∀ g L' h₁, NKeep h₀ L g news → Fr h₀ L g m → Fr g L' h₁ (fun y => binds.reverse.lookup y) → News g L' h₁ [] → Below A h₀ [envOf cn cs L a ccd] g → K.In g → Top p loose mean mg mb g → KtsDicts ([envOf cn cs L a ccd].filterMap (·.frame)) g →
      wpAny (model prog w) (A.deeper (envOf qual scope L' f cdv)) (execs body (envOf qual scope L' f cdv))
        (fun fl s' => LeaveS0 ([envOf cn cs L a ccd].filterMap (·.frame)) h₀ L m g R (match fl with | .ret v => v | _ => .none) s')
        (fun e s' => wpAny (model prog w) (A.deeper (envOf qual scope L' f cdv)) (leaving (envOf qual scope L' f cdv) e) (fun _ s'' => R (.error e) s'') (fun e' s'' => R (.error e') s'') s')
        { s with heap := h₁, toks := s.toks + binds.length })
    (hco : scope.isCoroutine = false) (hgen : scope.isGenerator = false) (hk : scope.kind = .function)
    (hcell : ∀ x ∈ scope.names, x.2 ≠ .cell) : codeAny (model prog w) A (.call (.ref f) args) R s := by
  have X := X₀.keeps F.keep
  refine codeAny_call_def (fd := fnOf name qual params body scope dV kV doc pm an cdv ct) (body := body) (binds := binds) hroom (X _ _ ho) rfl (T.nolimit.keeps F.keep) (codeRec_of X hcd) rfl hbind hcell hloc (fun h₁ hns hk₁ => ?_) hco hgen hk
  obtain ⟨oL, es, ep, hLg, hLd, hN, hNs, st, B₂⟩ := kts_enter (news := []) B F News.nil hA hck
  refine wpAny_mono (h s.heap s.heap.objs.size h₁ ⟨N⟩ ⟨hN _ hLg, st, F.above⟩ ⟨hns, hk₁, Nat.le_refl _⟩ News.nil B₂ (X₀.keeps st) (T.keeps st) (fun b hb => by
      rcases kts_mem hb with rfl | z
      · exact ⟨oL, es, ep, hLg, hLd⟩
      · simp at z)) (fun fl s' hl => ?_) fun _ _ y => y
  obtain ⟨g', L', m', news', T', F', N', k⟩ := hl
  have nL₀ : h₀.get? L = none := kts_self F
  obtain ⟨sl, hs⟩ := T'.up hLg
  refine k ⟨hNs sl _ (F'.keep _ _ hs), fun b o e => F'.keep b o (T'.other b o (st b o e) (fun q => by
    rcases kts_mem q with z | z
    · rw [z, nL₀] at e
      cases e
    · simp at z)), F.above⟩ fun p hp => ⟨(N' p hp).1, fun q => ?_, ?_⟩
  · have := (N' p hp).2.2; rw [q, hs] at this; cases this
  · cases q : h₀.get? p.1 with
    | none => rfl
    | some o =>
      obtain ⟨sl', hs'⟩ := T'.up (st _ _ q)
      have := (N' p hp).2.2
      rw [hs'] at this
      cases this
theorem newsBack0 {g g' h : Heap} {L' : Addr} {m' : Str → Option Value} (N : NKeep h₀ L g news) (T : KtsTurn ([envOf cn cs L a ccd].filterMap (·.frame)) g g') (F : Fr g' L' h m') : News h₀ L h news :=
  fun p hp => ⟨F.keep _ _ (T.other _ _ (N.out p hp).1 (fun q => by
    rcases kts_mem q with z | z
    · exact (N.out p hp).2.1 z
    · simp at z)), (N.out p hp).2⟩
end
def F0Claim (w : World) (mean : ExcName → Option Value) (mg mb : Str → Option Value) (f : Addr) (news : List (Addr × Obj)) (vs : List Value) (dn : Nat)
    (Ret : Heap → Addr → (Str → Option Value) → Shared → (Value → Shared → Prop) → Prop) : Prop :=
  ∀ (dp un : Nat) (gd : Option (List Code)) (cn : Str) (cs : Scope) (a : Addr) (ccd : Value) (A₀ : Around) (h₀ : Heap) (L : Addr) (m : Str → Option Value) (s : Shared) (Q E : Value → Shared → Prop),
    Below A₀ h₀ [] h₀ → Fr h₀ L s.heap m → (Mine.hd.heap_39 w.params).In h₀ → News h₀ L s.heap news →
    Top Mine.hd.view_39 (looseW Mine.hd.view_39 [Str.ofString "ONE_THIRD", Str.ofString "ONE_SIXTH", Str.ofString "TWO_THIRD"]) mean mg mb h₀ → cs.kind = .function →
    dp + dn < recursionLimit → un + 8 * dn < cLine → Ret h₀ L m s Q →
      wpAny (model PySem.Challenge.rw_dz0010_01.row.prog w) { handled := none, depth := dp, frames := some [envOf cn cs L a ccd], guards := gd, units := un } (call (.ref f) vs) Q E s
structure RaiseMark : Prop where
  out : True
structure NayA (p : Prop) : Prop where
  out : ¬ p
structure NayB (p : Prop) : Prop where
  out : ¬ p
theorem nayA {p q : Prop} (h : NayA p) (hp : p) : q := absurd hp h.out
theorem nayB {p q : Prop} (h : NayB p) (hp : p) : q := absurd hp h.out
/-- rgb_to_hsv raises, or the swing is 0 or more, or it is below 0 -/
structure ValCase (turn share level hues parts : Int) : Prop where
  out : (share * level < 0 ∧ share = parts ∧ ValNo turn share level hues parts) ∨ (0 ≤ share * level ∧ ValZ turn share level hues parts ∧ ValOk turn share level hues parts) ∨
    (share * level < 0 ∧ (share - parts < 0 ∨ 0 < share - parts) ∧ ValZ turn share level hues parts ∧ ValNeg turn share level hues parts)
theorem val_split {P : Prop} {turn share level hues parts : Int} (C : ValCase turn share level hues parts)
    (ra : RaiseMark → NayA ((Float64.cmp (minF (minF (hsvF (fr turn hues) (fr share parts) (fr level parts)).1 (hsvF (fr turn hues) (fr share parts) (fr level parts)).2.1) (hsvF (fr turn hues) (fr share parts) (fr level parts)).2.2) (maxF (maxF (hsvF (fr turn hues) (fr share parts) (fr level parts)).1 (hsvF (fr turn hues) (fr share parts) (fr level parts)).2.1) (hsvF (fr turn hues) (fr share parts) (fr level parts)).2.2) == some .eq) = true) →
      NayB (¬ Float64.isZero (maxF (maxF (hsvF (fr turn hues) (fr share parts) (fr level parts)).1 (hsvF (fr turn hues) (fr share parts) (fr level parts)).2.1) (hsvF (fr turn hues) (fr share parts) (fr level parts)).2.2) = true) → share * level < 0 → share = parts → P)
    (rb : 0 ≤ share * level → ValZ turn share level hues parts → ValOk turn share level hues parts → P)
    (rc : share * level < 0 → (share - parts < 0 ∨ 0 < share - parts) → ValZ turn share level hues parts → ValNeg turn share level hues parts → P) : P := by
  rcases C.out with ⟨h1, h2, h3⟩ | ⟨h1, h2, h3⟩ | ⟨h1, h2, h3, h4⟩
  · have e1 := h3.e1
    have e2 := h3.e2
    unfold mnV mxV gV min3 max3 at e1
    unfold mxV gV max3 at e2
    exact ra ⟨trivial⟩ ⟨ne_true_of e1⟩ ⟨fun hn => hn e2⟩ h1 h2
  · exact rb h1 h2 h3
  · exact rc h1 h2 h3 h4
end Mine
end
/- MyLightH -/
section
open PySem PySem.W PyProof.Rows PySem.Spec PySem.Calls PySem.Flt
set_option maxRecDepth 100000
set_option maxHeartbeats 8000000
namespace Mine
section
variable {prog : Program} {w : World} {A A₀ : Around} {s : Shared} {K : Frag} {L : Addr} {h₀ base : Heap} {m mg mb : Str → Option Value} {news : List (Addr × Obj)} {p : Program} {loose : List Str} {mean : ExcName → Option Value}
theorem code_freeC {env : Env} {outer : List Env} {R : Result → Shared → Prop} {name qual : Str} {params : Arguments} {body : List Stmt} {scope : Scope} {dV kV doc pm cdv ct oc : Value} {an od : Option Addr} {osl : Array (Option Value)} {f : Addr} {args : Args} {binds : List (Str × Value)}
    (B : Below A₀ base outer h₀) (F : Fr h₀ L s.heap m) (X₀ : K.In h₀) (N : News h₀ L s.heap news) (T : Top p loose mean mg mb h₀) (hA : A.frames = some (env :: outer)) (hf : env.frame = some L) (hke : env.scope.kind = .function)
    (ho : K.lookup f = some ⟨oc, od, .func (fnOf name qual params body scope dV kV doc pm an cdv ct), osl⟩) (hcd : codeIn K cdv qual = true) (hroom : A.depth < recursionLimit)
    (hbind : BindsTo s (fnOf name qual params body scope dV kV doc pm an cdv ct) args binds) (hkind : (binds.all fun y => scope.names.lookup y.1 == some .local || scope.names.lookup y.1 == some .cell) = true)
    (hnd : ((cellsFrom 0 scope.names []).map (·.1)).Nodup)
    (h : ∀ g L' h₁ (tk : Nat) cells, 0 < tk → NKeep h₀ L g news → Fr h₀ L g m → Fr g L' h₁ (bindL (envOfC qual scope L' f cdv).kindOf binds fun _ => none) → News g L' h₁ cells →
      CellsAre (bindC (envOfC qual scope L' f cdv).kindOf binds fun _ => none) (cellsFrom (L' + 1) scope.names []) cells → Below A base (env :: outer) g → K.In g → Top p loose mean mg mb g →
      wpAny (model prog w) (A.deeper (envOfC qual scope L' f cdv)) (execs body (envOfC qual scope L' f cdv))
        (fun fl s' => LeaveK h₀ L m g R (match fl with | .ret v => v | _ => .none) s')
        (fun e s' => wpAny (model prog w) (A.deeper (envOfC qual scope L' f cdv)) (leaving (envOfC qual scope L' f cdv) e) (fun _ s'' => R (.error e) s'') (fun e' s'' => R (.error e') s'') s')
        { s with heap := h₁, toks := tk })
    (hco : scope.isCoroutine = false) (hgen : scope.isGenerator = false) (hk : scope.kind = .function) (hpos : 0 < s.toks) : codeAny (model prog w) A (.call (.ref f) args) R s := by
  obtain ⟨FG, BG, st, lv⟩ := groundX (R := R) (news := []) (A := A) B F News.nil hA hf hke
  have XF := X₀.keeps F.keep
  refine codeAny_call_function (fd := fnOf name qual params body scope dV kV doc pm an cdv ct) hroom (XF _ _ ho) rfl hco hgen rfl (codeRec_of XF hcd) (hbind _ _ _ _ ?_)
  refine wpAny_up s.toks (Nat.le_refl _) (wpAny_newFunctionEnv_cells hk (kindsX hkind _) fun env' he s' x hup => ?_)
  subst he
  refine ⟨(T.nolimit.keeps F.keep).keeps x.toInCall.keep, codeAny_func ?_⟩
  obtain ⟨h₁, tk, rfl, _⟩ := x.done
  have hk₁ := x.toInCall.keep
  obtain ⟨cells, NC, Y⟩ := Cl.news (h₀ := s.heap) (Nat.le_refl _) fun n c hm => ⟨x.cell n c (lookup_of_mem_nodup (cellsFrom_names scope.names 0 (s.heap.objs.size + 1) [] [] rfl ▸ hnd) hm), x.above n c hm⟩
  exact wpAny_mono (h s.heap s.heap.objs.size h₁ tk cells (Nat.lt_of_lt_of_le hpos hup) ⟨N⟩ FG ⟨x.toInCall.ns, hk₁, Nat.le_refl _⟩ NC Y BG (X₀.keeps st) (T.keeps st)) (fun fl s' hl => lv _ _ hl) fun _ _ y => y
end
section
open PyProof.Rows.LCg
variable {prog : Program} {w : World} {A : Around} {E : Value → Shared → Prop} {s : Shared} {h₀ : Heap} {L : Addr} {m : Str → Option Value} {env : Env}
abbrev TupAt (ax : Addr) (its : Array Value) (nw : List (Addr × Obj)) : Prop := False ∨ ∃ o, (ax, o) ∈ nw ∧ o.cls = .type "tuple" ∧ ∃ n, o.data = .seq its n
def TupSrc (prog : Program) (w : World) (A : Around) (h₀ : Heap) (L : Addr) (m : Str → Option Value) (env : Env) (elt : Expr) (x : Str) (scope : Scope) (cl : List (Str × Addr)) (Fin : Shared → List Value → List (Addr × Obj) → Prop) (xv : Value) (s₁ : Shared) : Prop :=
  ∃ ax its news, xv = .ref ax ∧ A.handled = none ∧ Fr h₀ L s₁.heap m ∧ News h₀ L s₁.heap news ∧ TupAt ax its news ∧ its.size ≤ sizeLine ∧
    ∀ s₂ : Shared, (∃ h, s₂ = { s₁ with heap := h }) → CompRest prog w A h₀ L m env elt x scope cl s₂ (TupAt ax its) (fun i v => its[i]? = some v) (Fin s₂) its.size 0 [] news
theorem TupSrc.ledger {elt : Expr} {x : Str} {scope : Scope} {cl : List (Str × Addr)} {Fin : Shared → List Value → List (Addr × Obj) → Prop} {ax : Addr} {its : Array Value} {k : Nat} {news : List (Addr × Obj)} {s₁ : Shared}
    (hh : A.handled = none) (F : Fr h₀ L s₁.heap m) (N : News h₀ L s₁.heap news) (hm : (ax, ({ cls := .type "tuple", data := .seq its k } : Obj)) ∈ news) (hsz : its.size ≤ sizeLine)
    (h : ∀ g, CompRest prog w A h₀ L m env elt x scope cl { s₁ with heap := g } (TupAt ax its) (fun i v => its[i]? = some v) (Fin { s₁ with heap := g }) its.size 0 [] news) :
    TupSrc prog w A h₀ L m env elt x scope cl Fin (.ref ax) s₁ := ⟨ax, its, news, rfl, hh, F, N, .inr ⟨_, hm, rfl, _, rfl⟩, hsz, fun _ ⟨g, e⟩ => e ▸ h g⟩
theorem tupAt_tup {h : Heap} {ax : Addr} {its : Array Value} {nw : List (Addr × Obj)} (x : TupAt ax its nw) (N : News h₀ L h nw) : h.IsTuple ax its := by
  rcases x with f | ⟨o, hm, r⟩
  · exact f.elim
  · exact ⟨o, (N _ hm).1, r⟩
theorem tup_st {ax I : Addr} {its : Array Value} : ∀ i (h h' : Heap) (o : Obj) (nw : List (Addr × Obj)), (h.IsTupleIter I ax i ∧ h.IsTuple ax its) → h.get? I = some o → h'.get? I = some o → (∀ b o, h₀.get? b = some o → h'.get? b = some o) → News h₀ L h' nw → TupAt ax its nw → (h'.IsTupleIter I ax i ∧ h'.IsTuple ax its) :=
  fun i h h' o nw st e e' _ N S => ⟨by obtain ⟨o', q, r⟩ := st.1; rw [e] at q; cases q; exact ⟨o, e', r⟩, tupAt_tup S N⟩
theorem ListComp_T {elt iter : Expr} {x : Str} {px : Pos} {scope : Scope} {cl : List (Str × Addr)} {pos : Pos} {Q : Value → Shared → Prop} (F₀ : Fr h₀ L s.heap m)
    (hclos : closureFor scope env = pure cl) (hcell : ∀ y ∈ scope.names, y.2 ≠ .cell) (hkind : scope.kind = .function)
    (hnames : ∀ y ∈ scope.names, y.2 = .local → scope.names.lookup y.1 = some .local) (hx : scope.names.lookup x = some .local)
    (h : wpAny (model prog w) A (eval iter env) (TupSrc prog w A h₀ L m env elt x scope cl (fun s₂ => FinE h₀ L m s₂ Q)) E s)
    (hs : ∀ x, foldedSetIterable iter env x = pure x := by intro _; rfl) :
    wpAny (model prog w) A (eval (.ListComp elt [⟨.Name x px, iter, [], 0⟩] scope pos) env) Q E s := by
  rw [eval_ListComp]
  refine wpAny_comprehension_free (use := none) rfl hs hclos hkind hnames (wpAny_mono h (fun xv s₁ h₁ => ?_) fun _ _ e => e)
  obtain ⟨ax, its, news, rfl, hh, F, N, S, hsz, R⟩ := h₁
  have hl := tupAt_tup S N
  have hlt : ax < s₁.heap.objs.size := by obtain ⟨_, e, _⟩ := hl; exact Heap.lt_size e
  refine wpAny_pyIter_tuple hl ?_
  have up : ∀ b o, s₁.heap.get? b = some o → (s₁.heap.push { cls := .type "tuple_iterator", data := .fields #[.ref ax, .int 0 0] }).get? b = some o := fun b o e => Heap.get?_push_of_some _ e
  refine block_U (Walks.tuple hh s₁.heap.objs.size ax (Nat.ne_of_lt hlt) its) hsz (fun i h st => by obtain ⟨o, e, _⟩ := st.1; exact ⟨o, e⟩) tup_st hcell hkind hx ⟨⟨_, Heap.get?_push_size _ rfl, rfl, rfl⟩, hl.push _⟩ (fun b hb => ?_)
    (F.keeps up) (N.grown up) (Nat.ne_of_lt F.ns.lt) (next_is_new F) (fun p hp => Nat.ne_of_lt (Heap.lt_size (N p hp).1)) S (R _ ⟨_, rfl⟩) ?_
  · show b < (s₁.heap.push _).objs.size
    rw [Heap.size_push]
    rcases List.mem_cons.mp hb with rfl | hb
    · exact Nat.lt_succ_self _
    · rw [List.mem_singleton.mp hb]; exact Nat.lt_succ_of_lt hlt
  · intro D C h tk m' ys news' F' N' o1 hn hC₀ hD₀ hCL hDL hCD offC fin
    refine ⟨m', hn, fun h'' hs'' => fin D h'' tk (F'.change hs'' hCL hC₀) (fun p hp => ?_) o1⟩
    refine ⟨hs''.extBut _ _ ?_ (N' p hp).1, (N' p hp).2⟩
    rcases List.mem_cons.mp hp with rfl | hp
    · exact Ne.symm hCD
    · exact offC p hp
end
structure Small (x : Int) : Prop where
  lo : -1099511627776 ≤ x
  hi : x ≤ 1099511627776
theorem notOver {n : Int} (h1 : -1099511627776 ≤ n) (h2 : n ≤ 1099511627776) : ¬ Over n := by
  intro h
  exact absurd (Nat.le_trans h (show n.natAbs ≤ 1099511627776 by omega)) (by decide +kernel)
section
variable {prog : Program} {w : World} {A : Around} {E : Value → Shared → Prop} {s : Shared} {Q : Value → Shared → Prop} {x : UInt64} {n : Int} {t u : Tok}
theorem round_ok (hA : A.handled = none) (hf : Float64.isFinite x = true) (h : Q (.int (toInt Float64.nearestOf x) s.toks) { s with toks := s.toks + 1 }) : wpAny (model prog w) A (call (.builtin "round") [.float x t]) Q E s :=
  call_round_float hA (fun e => absurd ((not_nan_of_finite hf).symm.trans e) (by decide)) (fun e => absurd ((not_inf_of_finite hf).symm.trans e) (by decide)) (fun _ => h)
theorem mul_fi_ok (hA : A.handled = none) (hn : ¬ Over n) (h : Q (.float (Float64.mul x (Float64.ofInt n)) s.toks) { s with toks := s.toks + 1 }) : wpAny (model prog w) A (binaryOp .Mult (.float x t) (.int n u)) Q E s :=
  mul_fi_sharp hA (fun e => absurd e hn) (fun _ => h)
open PySem.SeqAt in
theorem ne_list3 {a b L : Addr} {h₀ : Heap} {news : List (Addr × Obj)} {oa ob : Obj} {x1 x2 x3 y1 y2 y3 : Int} {t1 t2 t3 u1 u2 u3 : Tok} {na nb : Nat} (N : News h₀ L s.heap news) (ha : (a, oa) ∈ news) (hb : (b, ob) ∈ news) (ca : oa.cls = .type "list") (cb : ob.cls = .type "list")
    (da : oa.data = .seq #[.int x1 t1, .int x2 t2, .int x3 t3] na) (db : ob.data = .seq #[.int y1 u1, .int y2 u2, .int y3 u3] nb) (hu : A.units < cLine) (e1 : x1 = y1) (e2 : x2 = y2) (e3 : x3 = y3)
    (h : Q (.bool false) s) : wpAny (model prog w) A (compareOp .NotEq (.ref a) (.ref b)) Q E s := by
  subst e1 e2 e3
  have he : ∀ j (h1 : j < (#[Value.int x1 t1, .int x2 t2, .int x3 t3] : Array Value).size) (h2 : j < (#[Value.int x1 u1, .int x2 u2, .int x3 u3] : Array Value).size),
      EqAt A.in1 s (#[Value.int x1 t1, .int x2 t2, .int x3 t3] : Array Value)[j] (#[Value.int x1 u1, .int x2 u2, .int x3 u3] : Array Value)[j] ((fun _ => true) j) := by
    have hi : ∀ (x : Int) (t u : Tok), EqAt A.in1 s (.int x t) (.int x u) true := fun x t u => by
      have := EqAt.int_int (A := A.in1) (s := s) x t x u
      rwa [beq_self_eq_true] at this
    intro j h1 h2
    match j, h1, h2 with
    | 0, _, _ => exact hi _ _ _
    | 1, _, _ => exact hi _ _ _
    | 2, _, _ => exact hi _ _ _
    | n + 3, h1, _ => exact absurd h1 (by simp only [List.size_toArray, List.length_cons, List.length_nil]; omega)
  have := RcNeAt.lists (A := A) ⟨_, (N _ ha).1, ca, _, da⟩ ⟨_, (N _ hb).1, cb, _, db⟩ rfl hu he prog w E Q
  exact cmp_ofNotEq (this h)
end
theorem retB {h₀ h' : Heap} {L : Addr} {m : Str → Option Value} {news : List (Addr × Obj)} {st : Shared} {Q : Value → Shared → Prop} {tk' : Nat} {b : Bool}
   (hret : ∀ h' (tk' : Nat), 0 < tk' → Fr h₀ L h' m → News h₀ L h' news → Q (.bool true) { st with heap := h', toks := tk' }) (hk : 0 < tk') (F : Fr h₀ L h' m) (N : News h₀ L h' news) (e : b = true) : Q (.bool b) { st with heap := h', toks := tk' } := by
  subst e
  exact hret h' tk' hk F N
/-- the factor of the swing: the level, or what it lacks of a whole -/
def Half (level parts half : Int) : Prop := (2 * level ≤ parts ∧ half = level) ∨ (parts < 2 * level ∧ half = parts - level)
structure HalfTok (turn share level hues parts : Int) : Prop where
  out : ∀ half, Half level parts half → LightOk turn share level hues parts (share * half)
def HalfEnd (level parts : Int) (s : Shared) (v : Value) (s' : Shared) : Prop := ∃ half t tk, Half level parts half ∧ (0 : Nat) < tk ∧ v = .int half t ∧ s' = { s with toks := tk }
theorem halfEnd1 {level parts : Int} {s : Shared} {t : Tok} {tk : Nat} (h : 2 * level ≤ parts) (hk : 0 < tk) : HalfEnd level parts s (.int level t) { s with toks := tk } := ⟨_, _, _, .inl ⟨h, rfl⟩, hk, rfl, rfl⟩
theorem halfEnd2 {level parts : Int} {s : Shared} {t : Tok} {tk : Nat} (h : parts < 2 * level) (hk : 0 < tk) : HalfEnd level parts s (.int (parts - level) t) { s with toks := tk } := ⟨_, _, _, .inr ⟨h, rfl⟩, hk, rfl, rfl⟩
theorem half_cut {prog : Program} {w : World} {A : Around} {E : Value → Shared → Prop} {s : Shared} {Q : Value → Shared → Prop} {e : Expr} {env : Env} {turn share level hues parts : Int} (hO : HalfTok turn share level hues parts)
    (h1 : wpAny (model prog w) A (eval e env) (fun v s' => HalfEnd level parts s v s') E s)
    (h2 : ∀ (half : Int) (t : Tok) (tk : Nat), LightOk turn share level hues parts (share * half) → 0 < tk → Q (.int half t) { s with toks := tk }) : wpAny (model prog w) A (eval e env) Q E s :=
  wpAny_mono h1 (fun v s' hv => by
    obtain ⟨half, t, tk, hH, hk, rfl, rfl⟩ := hv
    exact h2 half t tk (hO.out half hH) hk) fun _ _ x => x
theorem IsV.small {r e : Int} (h : IsV r e) (n : Small e) : ¬ Over r := by rw [h.out]; exact notOver n.lo n.hi
theorem tilt_is {turn c hues pl r f : Int} (ep : IsV pl ((6 * turn).fmod (6 * hues))) (e2 : IsV f (if hues < r then hues else r)) (e1 : IsV r (if -hues > 3 * hues - 2 * farI pl c (6 * hues) then -hues else 3 * hues - 2 * farI pl c (6 * hues))) : tiltI turn c hues = f := by
  rw [e2.out, e1.out, ep.out]; rfl
theorem bits_tilt {f r x h : Int} (e2 : IsV f (if h < r then h else r)) (e1 : IsV r (if -h > x then -h else x)) (h0 : 0 ≤ h) (h1 : h ≤ 1024) : Builtin.Int.intBits f ≤ 64 := by
  have g : -1024 ≤ f ∧ f ≤ 1024 := by rw [e2.out, e1.out]; (repeat' split) <;> omega
  exact bits_of (by omega) (by omega)
section
variable {turn share level hues parts sw ex : Int}
theorem LightOk.d1 (O : LightOk turn share level hues parts sw) (ee : IsV ex (parts * parts * hues)) : Float64.isFinite (Float64.mul (hlsF (fr turn hues) (fr level parts) (fr share parts)).1 (Float64.ofInt ex)) = true := by rw [ee.out]; exact O.f1
theorem LightOk.d2 (O : LightOk turn share level hues parts sw) (ee : IsV ex (parts * parts * hues)) : Float64.isFinite (Float64.mul (hlsF (fr turn hues) (fr level parts) (fr share parts)).2.1 (Float64.ofInt ex)) = true := by rw [ee.out]; exact O.f2
theorem LightOk.d3 (O : LightOk turn share level hues parts sw) (ee : IsV ex (parts * parts * hues)) : Float64.isFinite (Float64.mul (hlsF (fr turn hues) (fr level parts) (fr share parts)).2.2 (Float64.ofInt ex)) = true := by rw [ee.out]; exact O.f3
theorem LightOk.q1 {pl a f : Int} (O : LightOk turn share level hues parts sw) (ep : IsV pl ((6 * turn).fmod (6 * hues))) (ee : IsV ex (parts * parts * hues))
    (y : IsV f (if hues < a then hues else a)) (x : IsV a (if -hues > 3 * hues - 2 * farI pl 0 (6 * hues) then -hues else 3 * hues - 2 * farI pl 0 (6 * hues))) :
    toInt Float64.nearestOf (Float64.mul (hlsF (fr turn hues) (fr level parts) (fr share parts)).1 (Float64.ofInt ex)) = level * parts * hues + sw * f := by
  have g := O.r1
  rw [tilt_is ep y x, ← ee.out] at g; exact g
theorem LightOk.q2 {pl a f : Int} (O : LightOk turn share level hues parts sw) (ep : IsV pl ((6 * turn).fmod (6 * hues))) (ee : IsV ex (parts * parts * hues))
    (y : IsV f (if hues < a then hues else a)) (x : IsV a (if -hues > 3 * hues - 2 * farI pl (2 * hues) (6 * hues) then -hues else 3 * hues - 2 * farI pl (2 * hues) (6 * hues))) :
    toInt Float64.nearestOf (Float64.mul (hlsF (fr turn hues) (fr level parts) (fr share parts)).2.1 (Float64.ofInt ex)) = level * parts * hues + sw * f := by
  have g := O.r2
  rw [tilt_is ep y x, ← ee.out] at g; exact g
theorem LightOk.q3 {pl a f : Int} (O : LightOk turn share level hues parts sw) (ep : IsV pl ((6 * turn).fmod (6 * hues))) (ee : IsV ex (parts * parts * hues))
    (y : IsV f (if hues < a then hues else a)) (x : IsV a (if -hues > 3 * hues - 2 * farI pl (4 * hues) (6 * hues) then -hues else 3 * hues - 2 * farI pl (4 * hues) (6 * hues))) :
    toInt Float64.nearestOf (Float64.mul (hlsF (fr turn hues) (fr level parts) (fr share parts)).2.2 (Float64.ofInt ex)) = level * parts * hues + sw * f := by
  have g := O.r3
  rw [tilt_is ep y x, ← ee.out] at g; exact g
end
end Mine
end
/- MyValC -/
section
open PySem PySem.W PyProof.Rows PySem.Spec PySem.Calls PySem.Flt
set_option maxRecDepth 100000
set_option maxHeartbeats 8000000
namespace Mine
local macro_rules | `(tactic| walk_at $s:str) => `(tactic| k_extra $s)
theorem c_valC (w : World) (mean : ExcName → Option Value) (mg mb : Str → Option Value) (news : List (Addr × Obj)) (turn share level hues parts : Int) (t1 t2 t3 t4 t5 : Tok)
   (b1 : 0 ≤ turn) (b2 : turn ≤ 4096) (b3 : -4096 ≤ share) (b4 : share ≤ 4096) (b5 : -4096 ≤ level) (b6 : level ≤ 4096) (b7 : 4 ≤ hues) (b8 : hues ≤ 1024) (b9 : 2 ≤ parts) (b10 : parts ≤ 1024)
   (b11 : Ne0 (parts * parts * hues)) (b12 : Ne0 (parts * parts)) (V : ValIn turn share level hues parts) (C : ValCase turn share level hues parts) :
   F0Claim w mean mg mb 70 news [.int turn t1, .int share t2, .int level t3, .int hues t4, .int parts t5] 3 (fun h₀ L m s Q => ∀ h' (tk' : Nat), 0 < tk' → Fr h₀ L h' m → News h₀ L h' news → Q (.bool true) { s with heap := h', toks := tk' }) := by
  unfold F0Claim
  k_with_none
  (k_with "execs cons" => (k_here; (try ((with_reducible rename (_ * _ ≠ (0 : Int)) => hne); replace hne := Ne0.mk hne)); refine execs_pos (by dsimp only; first | with_reducible assumption | exact Nat.succ_pos _ | omega) ?_; intro tk hTk; (try dsimp only); (try k_fold)))
  (k_with "PosThen" => (refine PosThen.of (fun hTk => ?_); (try dsimp only at hTk); (try dsimp only)))
  (k_with "call builtin:max" => ((with_reducible show wpAny _ _ (call _ [Value.float _ _, Value.float _ _, Value.float _ _]) _ _ _); (rename News _ _ _ _ => N'); (rename Fr _ _ _ _ => F'); refine max_three_ff rfl F' N' (by first | with_reducible assumption | exact Nat.succ_pos _ | (dsimp only; omega)) (by first | with_reducible assumption | exact Nat.succ_pos _ | omega) (by first | with_reducible assumption | exact Nat.succ_pos _ | omega) (by first | with_reducible assumption | exact Nat.succ_pos _ | omega) ?_; clear N'; intro _ _ _ _ _ _ _))
  (k_with "call builtin:min" => ((with_reducible show wpAny _ _ (call _ [Value.float _ _, Value.float _ _, Value.float _ _]) _ _ _); (rename News _ _ _ _ => N'); (rename Fr _ _ _ _ => F'); refine min_three_ff rfl F' N' (by first | with_reducible assumption | exact Nat.succ_pos _ | (dsimp only; omega)) (by first | with_reducible assumption | exact Nat.succ_pos _ | omega) (by first | with_reducible assumption | exact Nat.succ_pos _ | omega) (by first | with_reducible assumption | exact Nat.succ_pos _ | omega) ?_; clear N'; intro _ _ _ _ _ _ _))
  (k_with "call builtin:max" => ((with_reducible show wpAny _ _ (call _ [Value.int _ _, Value.int _ _]) _ _ _); (rename News _ _ _ _ => N'); (rename Fr _ _ _ _ => F'); k_dflt (refine max_two_G rfl F' N' ?_); clear N'; intro r9 t9 h9 tk9 e9 F9 N9; (try dsimp only)))
  (k_with "call builtin:min" => ((with_reducible show wpAny _ _ (call _ [Value.int _ _, Value.int _ _]) _ _ _); (rename News _ _ _ _ => N'); (rename Fr _ _ _ _ => F'); k_dflt (refine min_two_G rfl F' N' ?_); clear N'; intro r9 t9 h9 tk9 e9 F9 N9; (try dsimp only)))
  (k_with "binaryOp Mod int int" => ((with_reducible show wpAny _ _ (binaryOp _ (Value.int (6 * _) _) (Value.int (6 * _) _)) _ _ _); k_dflt (refine mod_G (Ne0.out (by with_reducible assumption)) ?_); intro r9 e9; (try dsimp only)))
  (k_with "binaryOp Mult int int" => (first | ((with_reducible show wpAny _ _ (binaryOp _ (Value.int (_ * _) _) (Value.int _ _)) _ _ _); k_dflt (refine mul_G (IntMulOk.of_right (by with_reducible assumption)) ?_); intro r9 e9; (try dsimp only)) | (with_reducible refine mul_int ?_ (by first | exact IntMulOk.of_right (by with_reducible assumption) | exact IntMulOk.of_left (by with_reducible assumption)))))
  (k_with "binaryOp Div int int" => (k_dflt (refine div_ok rfl (by first | with_reducible assumption | exact num_fits (by assumption) (by assumption) (by assumption) (by assumption) (by assumption) (by assumption) (by assumption) (by assumption) (by exact clamp_lo (by with_reducible assumption) (by with_reducible assumption) (by with_reducible assumption)) (by exact clamp_hi (by with_reducible assumption) (by with_reducible assumption)) | exact fits_of (by omega) (by omega) | exact fmod_fits (by omega) (by omega) | exact mul_fits (by omega) (by omega) (by omega) (by omega)) (by first | with_reducible assumption | exact Ne0.out (by with_reducible assumption) | exact IsV.ne0 (by with_reducible assumption) (by with_reducible assumption) | omega) ?_); (try dsimp only)))
  (k_with "compareOp NotEq ref ref" => (k_here; (with_reducible show wpAny _ _ (compareOp CmpOp.NotEq (Value.ref _) (Value.ref _)) _ _ _); k_dflt (refine ne_tup3c (by k_asm) (by k_mem) (by k_mem) (by exact noneBooked (Frag.In.keeps (by k_asm) (Fr.keep (by k_asm)))) (by first | with_reducible assumption | ktr_units) ⟨(by first | with_reducible assumption | exact Nat.succ_pos _ | omega), (by first | with_reducible assumption | exact Nat.succ_pos _ | omega), (by first | with_reducible assumption | exact Nat.succ_pos _ | omega), (by first | with_reducible assumption | exact Nat.succ_pos _ | omega), (by first | with_reducible assumption | exact Nat.succ_pos _ | omega), (by first | with_reducible assumption | exact Nat.succ_pos _ | omega)⟩ (by with_reducible exact valin_cmp (by with_reducible assumption) (by with_reducible assumption) (by with_reducible assumption) (by with_reducible assumption) (by with_reducible assumption) (by with_reducible assumption) (by with_reducible assumption) (by with_reducible assumption) (by with_reducible assumption)) ?_; k_whole); (try dsimp only)))
  (k_with "call ref" => (k_here; (with_reducible show wpAny _ _ (call (Value.ref 63) _) _ _ _); k_dflt (refine useA (c_far _ _ _ _ _ _ _ _ _ _ _ (by first | with_reducible assumption | omega)) (hu := by first | with_reducible assumption | ktr_units) ?_; k_whole); intro t9 h9 tk9 hK9 F9 N9; (try dsimp only); (try k_fold)))
  (k_with "call ref" => (k_here; (with_reducible show wpAny _ _ (call (Value.ref 49) _) _ _ _); k_dflt (refine useA (c_hsv _ _ _ _ _ _ _ _ _ _ _ (by first | with_reducible assumption | exact Nat.succ_pos _ | omega) (by first | with_reducible assumption | exact Nat.succ_pos _ | omega) (by first | with_reducible assumption | exact Nat.succ_pos _ | omega) (by exact ValIn.hf (by with_reducible assumption)) (by exact ValIn.hi (by with_reducible assumption))) (hu := by first | with_reducible assumption | ktr_units) ?_; k_whole); intro ta9 tb9 tc9 D9 h9 tk9 hA9 hB9 hC9 hK9 F9 N9 l9; (try dsimp only); (try k_fold)))
  (k_with "compareOp Eq ref ref" => (k_here; (with_reducible show wpAny _ _ (compareOp CmpOp.Eq (Value.ref _) (Value.ref _)) _ _ _); k_dflt (refine eq_tup3c (by k_asm) (by k_mem) (by k_mem) (by exact noneBooked (Frag.In.keeps (by k_asm) (Fr.keep (by k_asm)))) (by first | with_reducible assumption | ktr_units) ⟨(by first | with_reducible assumption | exact Nat.succ_pos _ | omega), (by first | with_reducible assumption | exact Nat.succ_pos _ | omega), (by first | with_reducible assumption | exact Nat.succ_pos _ | omega), (by first | with_reducible assumption | exact Nat.succ_pos _ | omega), (by first | with_reducible assumption | exact Nat.succ_pos _ | omega), (by first | with_reducible assumption | exact Nat.succ_pos _ | omega)⟩ (by first | ((with_reducible rename (_ * _ = (0 : Int)) => hP); (have g := ValOk.s0 (by with_reducible assumption) hP); unfold rV gV at g; with_reducible exact g) | ((with_reducible rename ((0 : Int) < _ * _) => hP); (have g := ValOk.sp (by with_reducible assumption) hP); unfold rV gV at g; with_reducible exact g) | ((have g := ValNeg.sn (by with_reducible assumption)); unfold rV gV at g; with_reducible exact g) | (exfalso; omega) | (exfalso; (with_reducible rename Ne0 _ => hq); (have hq9 := hq.out); omega)) ?_; k_whole); (try dsimp only)))
  (k_with "call ref" => (k_here; (with_reducible show wpAny _ _ (call (Value.ref 42) _) _ _ _); k_dflt (refine useA (c_rgbhsv _ _ _ _ _ _ _ _ _ _ _ (by first | with_reducible assumption | exact Nat.succ_pos _ | omega) (by first | with_reducible assumption | exact Nat.succ_pos _ | omega) (by first | with_reducible assumption | exact Nat.succ_pos _ | omega) (by (have g := ValZ.z1 (by with_reducible assumption)); unfold mnV mxV gV at g; with_reducible exact g) (by (have g := ValZ.z2 (by with_reducible assumption)); unfold mnV mxV gV at g; with_reducible exact g)) (hu := by first | with_reducible assumption | ktr_units) ?_; k_whole); intro ta9 tb9 tc9 D9 h9 tk9 hA9 hB9 hC9 hK9 F9 N9 l9; (try dsimp only); (try k_fold)))
  (k_with "call ref" => (k_here; (with_reducible show wpAny _ _ (call (Value.ref 42) _) _ _ _); (with_reducible rename RaiseMark => R9); (refine wpAny_call ?_); k_dflt (refine' code_def ?k1 ?k2 ?k3 ?k4 ?k5 ?kA ?kF ?kK ?k6 ?k7 ?k8 ?k9 ?kB ?_ ?c2 ?c3 ?c4 ?c5; (case kA => exact rfl); (case kF => exact rfl); (case kK => exact rfl); (case k1 => k_asm); (case k2 => k_asm); (case k3 => k_asm); (case k4 => k_asm); (case k5 => k_asm); (case k6 => k_is); (case k7 => k_is); (case k8 => ktr_room); (case k9 => exact BindsTo.of_eq rfl); (case c5 => decide); (case kB => exact locs rfl); (case c2 => exact rfl); (case c3 => exact rfl); (case c4 => exact rfl); k_whole; intro g' L' h' FG' F' N' B' X' T'; (try dsimp only); (try k_lift B'); (try k_fold))))
  (k_with "call ref" => (k_here; (with_reducible show wpAny _ _ (call (Value.ref 42) _) _ _ _); (with_reducible rename ValCase _ _ _ _ _ => C9); k_dflt (refine' val_split C9 ?ra ?rb ?rc); (case' ra => (clear C9; intro R9 NA9 NB9 sw9 sp9)); (case' rb => (clear C9; intro sw9 Z9 O9)); (case' rc => (clear C9; intro sw9 np9 Z9 O9))))
  (k_with "execs cons" => (k_here; (with_reducible rename RaiseMark => R9); first | exact nayA (by with_reducible assumption) (by with_reducible assumption) | exact nayB (by with_reducible assumption) (by with_reducible assumption)))
  w_top off
  k_fill
  intro dp un gd cn cs a ccd A₀ h₀ L m st Q E B F X N T hk hd hu hret
  have i1 : Builtin.Int.intBits turn ≤ 64 := bits_of (by omega) (by omega)
  have i2 : Builtin.Int.intBits share ≤ 64 := bits_of (by omega) (by omega)
  have i3 : Builtin.Int.intBits level ≤ 64 := bits_of (by omega) (by omega)
  have i4 : Builtin.Int.intBits hues ≤ 64 := bits_of (by omega) (by omega)
  have i5 : Builtin.Int.intBits parts ≤ 64 := bits_of (by omega) (by omega)
  have i6 : Builtin.Int.intBits 6 ≤ 64 := bits_of (by decide) (by decide)
  have i7 : Builtin.Int.intBits 2 ≤ 64 := bits_of (by decide) (by decide)
  have i8 : Builtin.Int.intBits 4 ≤ 64 := bits_of (by decide) (by decide)
  have f1 : turn.natAbs < 2 ^ 1023 := fits_of (by omega) (by omega)
  have f2 : share.natAbs < 2 ^ 1023 := fits_of (by omega) (by omega)
  have f3 : level.natAbs < 2 ^ 1023 := fits_of (by omega) (by omega)
  have n1 : Ne0 hues := ⟨by omega⟩
  have n2 : Ne0 parts := ⟨by omega⟩
  have n3 : Ne0 (6 * hues) := ⟨by omega⟩
  have n4 : Ne0 (2 * hues) := ⟨by omega⟩
  have o1 : 0 < 6 * hues := by omega
  have o3 : un + 3 + 8 * 1 < cLine := by ktr_units
  have o4 : un + 3 < cLine := by ktr_units
  have o2 : 0 ≤ hues := by omega
  refine wpAny_call ?_
  k_dflt (refine' code_free0 ?k1 ?k2 ?k3 ?k4 ?k5 ?kA ?kK ?k6 ?k7 ?k8 ?k9 ?kB ?_ ?c2 ?c3 ?c4 ?c5; (case kA => exact rfl); (case kK => assumption); (case k1 => k_asm); (case k2 => k_asm); (case k3 => k_asm); (case k4 => k_asm); (case k5 => k_asm); (case k6 => k_is); (case k7 => k_is); (case k8 => ktr_room); (case k9 => exact BindsTo.of_eq rfl); (case c5 => decide); (case kB => exact locs rfl); (case c2 => exact rfl); (case c3 => exact rfl); (case c4 => exact rfl); k_whole; intro g' L' h' NG' FG' F' N' B' X' T' D'; (try dsimp only); (try k_lift B'); (try k_fold))
  k_steps
  all_goals first
    | ((with_reducible show Q (Value.bool true) _); exact hret _ _ (by first | with_reducible assumption | omega) (by k_asm) (newsBack NG' (by assumption)))
    | ((with_reducible rename RaiseMark => R9); rw [show (share == parts) = true from beq_iff_eq.mpr (by with_reducible assumption)]; exact hret _ _ (by first | with_reducible assumption | omega) (by k_asm) (newsBack0 NG' (by assumption) (by assumption)))
    | (exfalso; omega)
    | (exfalso; (with_reducible rename Ne0 _ => hq); (have hq9 := hq.out); omega)
end Mine
end
/- MyLight -/
section
open PySem PySem.W PyProof.Rows PySem.Spec PySem.Calls PySem.Flt
set_option maxRecDepth 100000
set_option maxHeartbeats 8000000
namespace Mine
local macro_rules | `(tactic| walk_at $s:str) => `(tactic| k_extra $s)
local macro_rules | `(tactic| lcg_src) => `(tactic| exact Or.inr ⟨_, by k_mem, rfl, _, rfl⟩)
local macro_rules | `(tactic| lcg_off) => `(tactic| (simp only [PyProof.Rows.LCg.Off3, and_true]; with_reducible assumption))
theorem c_lightC (w : World) (mean : ExcName → Option Value) (mg mb : Str → Option Value) (news : List (Addr × Obj)) (turn share level hues parts : Int) (t1 t2 t3 t4 t5 : Tok)
   (b1 : -4096 ≤ turn) (b2 : turn ≤ 4096) (b3 : -4096 ≤ share) (b4 : share ≤ 4096) (b5 : -4096 ≤ level) (b6 : level ≤ 4096) (b7 : 4 ≤ hues) (b8 : hues ≤ 1024) (b9 : 2 ≤ parts) (b10 : parts ≤ 1024)
   (b11 : Ne0 (parts * parts * hues)) (b12 : Ne0 (parts * parts)) (b13 : Small (parts * parts * hues)) (O : HalfTok turn share level hues parts) :
   FClaim w mean mg mb 75 news [.int turn t1, .int share t2, .int level t3, .int hues t4, .int parts t5] 3 (fun h₀ L m s Q => ∀ h' (tk' : Nat), 0 < tk' → Fr h₀ L h' m → News h₀ L h' news → Q (.bool true) { s with heap := h', toks := tk' }) := by
  unfold FClaim
  k_with_none
  (k_with "eval ListComp" => (k_here; k_dflt (refine ListComp_T (F₀ := by k_asm) (by rfl) (by decide) (by rfl) (by decide) (by rfl) ?_)))
  (k_with "TupSrc" => (k_here; k_dflt (refine TupSrc.ledger (by rfl) (by k_asm) (by k_asm) (by k_mem) (by first | size_fits | exact Nat.le_of_ble_eq_true rfl) ?_; intro g'; lcg_lit)))
  (k_with "execs cons" => (k_here; (try ((with_reducible rename (_ * _ ≠ (0 : Int)) => hne); replace hne := Ne0.mk hne)); refine execs_pos (by dsimp only; first | with_reducible assumption | exact Nat.succ_pos _ | omega) ?_; intro tk hTk; (try dsimp only); (try k_fold)))
  (k_with "PosThen" => (refine PosThen.of (fun hTk => ?_); (try dsimp only at hTk); (try dsimp only)))
  (k_with "call builtin:max" => ((with_reducible show wpAny _ _ (call _ [Value.float _ _, Value.float _ _, Value.float _ _]) _ _ _); (rename News _ _ _ _ => N'); (rename Fr _ _ _ _ => F'); refine max_three_ff rfl F' N' (by first | with_reducible assumption | exact Nat.succ_pos _ | (dsimp only; omega)) (by first | with_reducible assumption | exact Nat.succ_pos _ | omega) (by first | with_reducible assumption | exact Nat.succ_pos _ | omega) (by first | with_reducible assumption | exact Nat.succ_pos _ | omega) ?_; clear N'; intro _ _ _ _ _ _ _))
  (k_with "call builtin:min" => ((with_reducible show wpAny _ _ (call _ [Value.float _ _, Value.float _ _, Value.float _ _]) _ _ _); (rename News _ _ _ _ => N'); (rename Fr _ _ _ _ => F'); refine min_three_ff rfl F' N' (by first | with_reducible assumption | exact Nat.succ_pos _ | (dsimp only; omega)) (by first | with_reducible assumption | exact Nat.succ_pos _ | omega) (by first | with_reducible assumption | exact Nat.succ_pos _ | omega) (by first | with_reducible assumption | exact Nat.succ_pos _ | omega) ?_; clear N'; intro _ _ _ _ _ _ _))
  (k_with "call builtin:max" => ((with_reducible show wpAny _ _ (call _ [Value.int _ _, Value.int _ _]) _ _ _); (rename News _ _ _ _ => N'); (rename Fr _ _ _ _ => F'); k_dflt (refine max_two_G rfl F' N' ?_); clear N'; intro r9 t9 h9 tk9 e9 F9 N9; (try dsimp only)))
  (k_with "call builtin:min" => ((with_reducible show wpAny _ _ (call _ [Value.int _ _, Value.int _ _]) _ _ _); (rename News _ _ _ _ => N'); (rename Fr _ _ _ _ => F'); k_dflt (refine min_two_G rfl F' N' ?_); clear N'; intro r9 t9 h9 tk9 e9 F9 N9; (try dsimp only)))
  (k_with "binaryOp Mod int int" => ((with_reducible show wpAny _ _ (binaryOp _ (Value.int (6 * _) _) (Value.int (6 * _) _)) _ _ _); k_dflt (refine mod_G (Ne0.out (by with_reducible assumption)) ?_); intro r9 e9; (try dsimp only)))
  (k_with "binaryOp Mult int int" => (first | ((with_reducible show wpAny _ _ (binaryOp _ (Value.int (parts * parts) _) (Value.int _ _)) _ _ _); k_dflt (refine mul_G (IntMulOk.of_right (by with_reducible assumption)) ?_); intro r9 e9; (try dsimp only)) | (with_reducible refine mul_int ?_ (by first | exact IntMulOk.of_right (by with_reducible assumption) | exact IntMulOk.of_left (by with_reducible assumption) | exact IntMulOk.of_right (bits_tilt (by with_reducible assumption) (by with_reducible assumption) (by with_reducible assumption) (by with_reducible assumption))))))
  (k_with "binaryOp Div int int" => (k_dflt (refine div_ok rfl (by first | with_reducible assumption | exact fits_of (by omega) (by omega) | exact fmod_fits (by omega) (by omega) | exact mul_fits (by omega) (by omega) (by omega) (by omega)) (by first | with_reducible assumption | exact Ne0.out (by with_reducible assumption) | omega) ?_); (try dsimp only)))
  (k_with "call ref" => (k_here; (with_reducible show wpAny _ _ (call (Value.ref 63) _) _ _ _); k_dflt (refine useA (c_far _ _ _ _ _ _ _ _ _ _ _ (by first | with_reducible assumption | omega)) (hu := by first | with_reducible assumption | ktr_units) ?_; k_whole); intro t9 h9 tk9 hK9 F9 N9; (try dsimp only); (try k_fold)))
  (k_with "call ref" => (k_here; (with_reducible show wpAny _ _ (call (Value.ref 28) _) _ _ _); k_dflt (refine useA (c_hls _ _ _ _ _ _ _ _ _ _ _ (by first | with_reducible assumption | exact Nat.succ_pos _ | omega) (by first | with_reducible assumption | exact Nat.succ_pos _ | omega) (by first | with_reducible assumption | exact Nat.succ_pos _ | omega)) (hu := by first | with_reducible assumption | ktr_units) ?_; k_whole); intro ta9 tb9 tc9 D9 h9 tk9 hA9 hB9 hC9 hK9 F9 N9 l9; (try dsimp only); (try k_fold)))
  (k_with "call ref" => (k_here; (with_reducible show wpAny _ _ (call (Value.ref 21) _) _ _ _); k_dflt (refine useA (c_rgbhls _ _ _ _ _ _ _ _ _ _ _ (by first | with_reducible assumption | exact Nat.succ_pos _ | omega) (by first | with_reducible assumption | exact Nat.succ_pos _ | omega) (by first | with_reducible assumption | exact Nat.succ_pos _ | omega) (by (have g := LightOk.z1 (by with_reducible assumption)); unfold mnL mxL gL at g; with_reducible exact g) (by (have g := LightOk.z2 (by with_reducible assumption)); unfold lowL mnL mxL gL at g; with_reducible exact g) (by (have g := LightOk.z3 (by with_reducible assumption)); unfold lowL mnL mxL gL at g; with_reducible exact g)) (hu := by first | with_reducible assumption | ktr_units) ?_; k_whole); intro ta9 tb9 tc9 D9 h9 tk9 hA9 hB9 hC9 hK9 F9 N9 l9; (try dsimp only); (try k_fold)))
  (k_with "call builtin:round" => ((with_reducible show wpAny _ _ (call _ [Value.float _ _]) _ _ _); k_dflt (refine round_ok rfl (by first | (with_reducible exact LightOk.d1 (by with_reducible assumption) (by with_reducible assumption)) | (with_reducible exact LightOk.d2 (by with_reducible assumption) (by with_reducible assumption)) | (with_reducible exact LightOk.d3 (by with_reducible assumption) (by with_reducible assumption)) | ((have g := LightOk.k1 (by with_reducible assumption)); unfold rL gL at g; with_reducible exact g) | ((have g := LightOk.k2 (by with_reducible assumption)); unfold rL gL at g; with_reducible exact g) | ((have g := LightOk.k3 (by with_reducible assumption)); unfold rL gL at g; with_reducible exact g)) ?_); (try dsimp only)))
  (k_with "binaryOp Mult float int" => (k_dflt (refine mul_fi_ok rfl (by first | with_reducible assumption | exact IsV.small (by with_reducible assumption) (by with_reducible assumption) | exact notOver (by omega) (by omega)) ?_); (try dsimp only)))
  (k_with "compareOp Eq ref ref" => (k_here; (with_reducible show wpAny _ _ (compareOp CmpOp.Eq (Value.ref _) (Value.ref _)) _ _ _); k_dflt (refine eq_tup3c (by k_asm) (by k_mem) (by k_mem) (by exact noneBooked (Frag.In.keeps (by k_asm) (Fr.keep (by k_asm)))) (by first | with_reducible assumption | ktr_units) ⟨(by first | with_reducible assumption | exact Nat.succ_pos _ | omega), (by first | with_reducible assumption | exact Nat.succ_pos _ | omega), (by first | with_reducible assumption | exact Nat.succ_pos _ | omega), (by first | with_reducible assumption | exact Nat.succ_pos _ | omega), (by first | with_reducible assumption | exact Nat.succ_pos _ | omega), (by first | with_reducible assumption | exact Nat.succ_pos _ | omega)⟩ (by ((with_reducible rename (_ * _ = (0 : Int)) => hP); (have g := LightOk.s0 (by with_reducible assumption) hP); unfold rL gL at g; with_reducible exact g)) ?_; k_whole); (try dsimp only)))
  (k_with "compareOp NotEq ref ref" => (k_here; (with_reducible show wpAny _ _ (compareOp CmpOp.NotEq (Value.ref _) (Value.ref _)) _ _ _); k_dflt (refine' ne_list3 ?k1 ?k2 ?k3 ?ca ?cb ?da ?db ?k5 ?e1 ?e2 ?e3 ?_; (case k1 => k_asm); (case k2 => k_mem); (case k3 => k_mem); (case ca => exact rfl); (case cb => exact rfl); (case da => exact rfl); (case db => exact rfl); (case k5 => first | with_reducible assumption | ktr_units); (case e1 => (with_reducible exact LightOk.q1 (by with_reducible assumption) (by with_reducible assumption) (by with_reducible assumption) (by with_reducible assumption) (by with_reducible assumption))); (case e2 => (with_reducible exact LightOk.q2 (by with_reducible assumption) (by with_reducible assumption) (by with_reducible assumption) (by with_reducible assumption) (by with_reducible assumption))); (case e3 => (with_reducible exact LightOk.q3 (by with_reducible assumption) (by with_reducible assumption) (by with_reducible assumption) (by with_reducible assumption) (by with_reducible assumption))); k_whole); (try dsimp only)))
  (k_with "eval IfExp" => (k_here; (with_reducible rename HalfTok _ _ _ _ _ => hO9); k_dflt (refine' half_cut hO9 ?ha ?hb); (case' ha => (clear hO9)); (case' hb => (clear hO9; intro half9 t9 tk9 O9 hTk9; (try dsimp only)))))
  w_top off
  k_fill
  intro dp un gd cn cs a ccd cl outer A₀ base h₀ L m st Q E B F X N T hk hd hu hs hret
  have i1 : Builtin.Int.intBits turn ≤ 64 := bits_of (by omega) (by omega)
  have i2 : Builtin.Int.intBits share ≤ 64 := bits_of (by omega) (by omega)
  have i3 : Builtin.Int.intBits level ≤ 64 := bits_of (by omega) (by omega)
  have i4 : Builtin.Int.intBits hues ≤ 64 := bits_of (by omega) (by omega)
  have i5 : Builtin.Int.intBits parts ≤ 64 := bits_of (by omega) (by omega)
  have i6 : Builtin.Int.intBits 6 ≤ 64 := bits_of (by decide) (by decide)
  have i7 : Builtin.Int.intBits 2 ≤ 64 := bits_of (by decide) (by decide)
  have i8 : Builtin.Int.intBits 4 ≤ 64 := bits_of (by decide) (by decide)
  have i9 : Builtin.Int.intBits 3 ≤ 64 := bits_of (by decide) (by decide)
  have f1 : turn.natAbs < 2 ^ 1023 := fits_of (by omega) (by omega)
  have f2 : share.natAbs < 2 ^ 1023 := fits_of (by omega) (by omega)
  have f3 : level.natAbs < 2 ^ 1023 := fits_of (by omega) (by omega)
  have n1 : Ne0 hues := ⟨by omega⟩
  have n2 : Ne0 parts := ⟨by omega⟩
  have n3 : Ne0 (6 * hues) := ⟨by omega⟩
  have n4 : Ne0 (2 * hues) := ⟨by omega⟩
  have o1 : 0 < 6 * hues := by omega
  have o2 : 0 ≤ hues := by omega
  have o3 : un + 3 + 8 * 1 < cLine := by ktr_units
  have o4 : un + 3 < cLine := by ktr_units
  refine wpAny_call ?_
  k_dflt (refine' code_freeC ?k1 ?k2 ?k3 ?k4 ?k5 ?kA ?kF ?kK ?k6 ?k7 ?k8 ?k9 ?kB ?kD ?_ ?c2 ?c3 ?c4 ?c6; (case kA => exact rfl); (case kF => exact rfl); (case kK => assumption); (case k1 => k_asm); (case k2 => k_asm); (case k3 => k_asm); (case k4 => k_asm); (case k5 => k_asm); (case k6 => k_is); (case k7 => k_is); (case k8 => ktr_room); (case k9 => exact BindsTo.of_eq rfl); (case kB => exact rfl); (case kD => decide +kernel); (case c2 => exact rfl); (case c3 => exact rfl); (case c4 => exact rfl); (case c6 => assumption); k_whole; intro g' L' h' tk' cells' hTk' NG' FG' F' N' Y' B' X' T'; k_cells Y'; (try simp only [List.cons_append, List.nil_append] at N'); (try dsimp only); (try k_lift B'); (try k_fold))
  k_steps
  all_goals first
    | ((with_reducible show HalfEnd _ _ _ _ _); first | exact halfEnd1 (by omega) (by first | with_reducible assumption | omega) | exact halfEnd2 (by omega) (by first | with_reducible assumption | omega))
    | exact hret _ _ (by first | with_reducible assumption | omega) (by k_asm) (newsBack NG' (by assumption))
    | (refine retB hret (by first | with_reducible assumption | omega) (by k_asm) (newsBack NG' (by assumption)) ?_; (with_reducible rename ((0 : Int) < _ * _) => hP); (have g := LightOk.sp (by with_reducible assumption) hP); unfold rnd rL gL at g; (obtain ⟨g1, g2, g3⟩ := g); first | (with_reducible exact beq_iff_eq.mpr g1) | (with_reducible exact beq_iff_eq.mpr g2) | (with_reducible exact beq_iff_eq.mpr g3))
    | (refine retB hret (by first | with_reducible assumption | omega) (by k_asm) (newsBack NG' (by assumption)) ?_; (with_reducible rename (¬ (0 : Int) < _ * _) => hP); (with_reducible rename Ne0 _ => hq); (have hq9 := hq.out); (have g := LightOk.sn (by with_reducible assumption) (by omega)); unfold rnd rL gL at g; (obtain ⟨g1, g2, g3⟩ := g); first | (with_reducible exact beq_iff_eq.mpr g1) | (with_reducible exact beq_iff_eq.mpr g2) | (with_reducible exact beq_iff_eq.mpr g3))
end Mine
end
/- MyTrip -/
section
open PySem PySem.W PyProof.Rows PySem.Spec PySem.Calls PySem.Flt
set_option maxRecDepth 100000
set_option maxHeartbeats 8000000
namespace Mine
def aroundI (number reach : Int) : Int := (number + reach).fmod (2 * reach + 1) - reach
theorem c_around (w : World) (mean : ExcName → Option Value) (mg mb : Str → Option Value) (news : List (Addr × Obj)) (number reach : Int) (t1 t2 : Tok) (hr : 0 ≤ reach) :
   FClaim w mean mg mb 56 news [.int number t1, .int reach t2] 1 (fun h₀ L m s Q => ∀ t h' (tk' : Nat), Fr h₀ L h' m → News h₀ L h' news → Q (.int (aroundI number reach) t) { s with heap := h', toks := tk' }) := by
  unfold FClaim
  k_with_none
  w_top off
  k_fill
  intro dp un gd cn cs a ccd cl outer A₀ base h₀ L m st Q E B F X N T hk hd hu hs hret
  refine wpAny_call ?_
  k_dflt cell_enter
  k_steps
  all_goals exact hret _ _ _ (by k_asm) (by k_asm)
end Mine
end
/- MyTripH -/
section
open PySem PySem.W PyProof.Rows PySem.Spec PySem.Calls PySem.Flt
set_option maxRecDepth 100000
set_option maxHeartbeats 8000000
namespace Mine
abbrev tupI (a b c : Int) (t1 t2 t3 : Tok) : Obj := { cls := .type "tuple", data := .seq #[.int a t1, .int b t2, .int c t3] }
structure TriB (parts a b c : Int) : Prop where
  a1 : -4096 ≤ a
  a2 : a ≤ 4096
  b1 : -(4 * parts) ≤ b
  b2 : b ≤ 4 * parts
  c1 : -(4 * parts) ≤ c
  c2 : c ≤ 4 * parts
def GoodIn (parts : Int) (news : List (Addr × Obj)) (x : Value) : Prop := ∃ tt a b c t1 t2 t3, x = .ref tt ∧ (tt, tupI a b c t1 t2 t3) ∈ news ∧ TriB parts a b c
theorem GoodIn.mono {parts : Int} {l l' : List (Addr × Obj)} {x : Value} (h : GoodIn parts l x) (hs : ∀ p ∈ l, p ∈ l') : GoodIn parts l' x := by
  obtain ⟨tt, a, b, c, t1, t2, t3, e, hm, hb⟩ := h
  exact ⟨tt, a, b, c, t1, t2, t3, e, hs _ hm, hb⟩
def sS : Str := Str.ofString "start"
/-- the frame in the loop of _law_triples -/
def tripF (m₀ u : Str → Option Value) (st : Option Value) (T : Addr) : Str → Option Value := fun y =>
  if y = Str.ofString "start" then st else if y = Str.ofString "triples" then some (.ref T) else if y = Str.ofString "turn" then u y else if y = Str.ofString "share" then u y else if y = Str.ofString "level" then u y else m₀ y
structure OffT (z : Str) : Prop where
  h1 : z ≠ Str.ofString "start"
  h2 : z ≠ Str.ofString "triples"
  h3 : z ≠ Str.ofString "turn"
  h4 : z ≠ Str.ofString "share"
  h5 : z ≠ Str.ofString "level"
theorem tripF_eq {m m₀ : Str → Option Value} {T : Addr} {st : Option Value} (ht : m (Str.ofString "triples") = some (.ref T)) (hz : ∀ z, OffT z → m z = m₀ z) : (fun y => if y = Str.ofString "start" then st else m y) = tripF m₀ m st T := by
  funext y
  unfold tripF
  by_cases h1 : y = Str.ofString "start"
  · rw [if_pos h1, if_pos h1]
  · rw [if_neg h1, if_neg h1]
    by_cases h2 : y = Str.ofString "triples"
    · rw [if_pos h2, h2, ht]
    · rw [if_neg h2]
      by_cases h3 : y = Str.ofString "turn"
      · rw [if_pos h3]
      · rw [if_neg h3]
        by_cases h4 : y = Str.ofString "share"
        · rw [if_pos h4]
        · rw [if_neg h4]
          by_cases h5 : y = Str.ofString "level"
          · rw [if_pos h5]
          · rw [if_neg h5]; exact hz y ⟨h1, h2, h3, h4, h5⟩
/-- a turn's end -/
def TripEnd (h₀ : Heap) (L : Addr) (parts : Int) (m₀ : Str → Option Value) (items : List Value) (led : List (Addr × Obj)) (s₁ : Shared) (f : Flow) (s₂ : Shared) : Prop :=
  f = .next ∧ ∃ h' tk m' T' tt a b c t1 t2 t3, s₂ = { s₁ with heap := h', toks := tk } ∧ Fr h₀ L h' m' ∧ News h₀ L h' ((T', W.listOf (items ++ [Value.ref tt]).toArray 0) :: (tt, tupI a b c t1 t2 t3) :: led) ∧
    m' (Str.ofString "triples") = some (.ref T') ∧ (∀ z, OffT z → m' z = m₀ z) ∧ TriB parts a b c
theorem range_small : ∀ b : Fin 19, Builtin.Range.small 0 ((b : Nat) : Int) 3 = true := by decide +kernel
section
variable {prog : Program} {w : World} {A : Around} {E : Value → Shared → Prop} {s : Shared} {env : Env} {h₀ : Heap} {body : List Stmt} {Q : Flow → Shared → Prop}
theorem trip_iter {r T Dr : Addr} {b : Int} {t u v : Tok} {m₀ : Str → Option Value} {news : List (Addr × Obj)} {items ds : List Value} (parts : Int)
    (hh : A.handled = none) (hr : IsRange s.heap r 0 b 3 t u v) (hb : 0 ≤ b) (hb2 : b ≤ 18) (F : Fr h₀ env.locals s.heap m₀) (N : News h₀ env.locals s.heap news)
    (hT : (T, W.listOf items.toArray 0) ∈ news) (hD : (Dr, W.listOf ds.toArray 0) ∈ news) (hm : m₀ (Str.ofString "triples") = some (.ref T)) (h4 : items.length = 4) (hg : ∀ x ∈ items, GoodIn parts news x)
    (turn : ∀ (i : Nat) (T' : Addr) (items' : List Value) (rest : List (Addr × Obj)) (um : Str → Option Value) (t' : Tok) (h : Heap) (tk : Nat), 3 * (i : Int) < b → items'.length = 4 + i → i ≤ 6 →
      Fr h₀ env.locals h (tripF m₀ um (some (.int (3 * (i : Int)) t')) T') → News h₀ env.locals h ((T', W.listOf items'.toArray 0) :: (Dr, W.listOf ds.toArray 0) :: rest) →
      wpAny (model prog w) A (execs body env) (TripEnd h₀ env.locals parts m₀ items' ((T', W.listOf items'.toArray 0) :: (Dr, W.listOf ds.toArray 0) :: rest) { s with heap := h, toks := tk }) E { s with heap := h, toks := tk })
    (done : ∀ (T' : Addr) (items' : List Value) (news' : List (Addr × Obj)) (um : Str → Option Value) (st : Option Value) (h : Heap) (tk : Nat), (T', W.listOf items'.toArray 0) ∈ news' → (∀ x ∈ items', GoodIn parts news' x) → Fr h₀ env.locals h (tripF m₀ um st T') → News h₀ env.locals h news' → Q .next { s with heap := h, toks := tk }) :
    wpAny (model prog w) A (pyIter (.ref r)) (fun it s₂ => LoopAtV prog w A h₀ env (Str.ofString "start") body Q E it s₂) E s := by
  have hsmall : Builtin.Range.small 0 b 3 = true := by
    have := range_small ⟨b.toNat, by omega⟩
    have e : (((⟨b.toNat, by omega⟩ : Fin 19) : Nat) : Int) = b := by show ((b.toNat : Nat) : Int) = b; omega
    rw [e] at this; exact this
  obtain ⟨n, hn, hn3⟩ : ∃ n : Nat, Builtin.Range.rangeSize 0 b 3 = (n : Int) ∧ ∀ i : Nat, i < n → 3 * (i : Int) < b := by
    refine ⟨(Builtin.Range.rangeSize 0 b 3).toNat, ?_, ?_⟩
    · unfold Builtin.Range.rangeSize; simp only [show (3 : Int) > 0 by decide, if_true]; split <;> omega
    · unfold Builtin.Range.rangeSize; simp only [show (3 : Int) > 0 by decide, if_true]; intro i hi; split at hi <;> omega
  refine wpAny_pyIter_range hr hsmall ?_
  have Wk := Walks.range (prog := prog) (w := w) hh s.heap.objs.size 0 3 n
  let J : Nat → (Str → Option Value) → List (Addr × Obj) → Prop := fun i m news₁ => ∃ (T' : Addr) (items' : List Value), (T', W.listOf items'.toArray 0) ∈ news₁ ∧ (Dr, W.listOf ds.toArray 0) ∈ news₁ ∧ m (Str.ofString "triples") = some (.ref T') ∧ (∀ z, OffT z → m z = m₀ z) ∧ items'.length = 4 + i ∧ ∀ x ∈ items', GoodIn parts news₁ x
  refine ⟨_, _, _, n, _, _, m₀, news, J, rfl, Wk, ?_, ?_, ?_, (by show IsRangeIter _ _ _ _ _; rw [hn]; simpa using Heap.get?_push_size _ rfl), F.push _, (fun p hp => ⟨Heap.get?_push_of_some _ (N p hp).1, (N p hp).2⟩), ⟨T, items, hT, hD, hm, fun _ _ => rfl, h4, hg⟩, ?_, ?_⟩
  · intro hm
    exact absurd F.ns.lt ((List.mem_singleton.mp hm) ▸ Nat.lt_irrefl _)
  · intro b hb
    rw [List.mem_singleton.mp hb]
    exact next_is_new F
  · intro p hp hI
    exact absurd (Heap.lt_size (N p hp).1) ((List.mem_singleton.mp hI) ▸ Nat.lt_irrefl _)
  · rintro i v m₁ news₁ s₁ own ⟨hh', tk', rfl⟩ hin ⟨t', rfl⟩ ⟨T', items', jT, jD, jm, jz, jl, jg⟩ hoff hsub hget hall hst F₁ N₁
    rw [show (0 : Int) + (i : Int) * 3 = 3 * (i : Int) by omega, tripF_eq jm jz] at F₁
    have N₂ : News h₀ env.locals hh' ((T', W.listOf items'.toArray 0) :: (Dr, W.listOf ds.toArray 0) :: (own ++ news₁)) := by
      intro p hp
      rcases List.mem_cons.mp hp with rfl | hp
      · exact N₁ _ (List.mem_append_right _ jT)
      · rcases List.mem_cons.mp hp with rfl | hp
        · exact N₁ _ (List.mem_append_right _ jD)
        · exact N₁ _ hp
    have h3 := hn3 i hin
    refine wpAny_mono (turn i T' items' (own ++ news₁) m₁ t' hh' tk' h3 jl (by omega) F₁ N₂) (fun f s₂ p => ?_) fun _ _ e => e
    obtain ⟨rfl, h', tk, m', T2, tt, aa, bb, cc, t1, t2, t3, rfl, F', N', em, ez, hB⟩ := p
    have hiter : (s.heap.objs.size, ({ cls := .type "range_iterator", dict := none, data := .fields #[rawInt (0 + ((i + 1 : Nat) : Int) * 3), rawInt ((n : Int) - ((i + 1 : Nat) : Int)), rawInt 3], slots := #[] } : Obj)) ∈ own :=
      hall _ (List.mem_singleton.mpr rfl) (next_is_new F) _ hst
    have hI' := (N' _ (List.mem_cons_of_mem _ (List.mem_cons_of_mem _ (List.mem_cons_of_mem _ (List.mem_cons_of_mem _ (List.mem_append_left _ hiter)))))).1
    refine .next (LoopStepU.intro (news₂ := (T2, W.listOf (items' ++ [Value.ref tt]).toArray 0) :: (tt, tupI aa bb cc t1 t2 t3) :: news₁) F' ?_ ?_ ⟨T2, items' ++ [Value.ref tt], List.mem_cons_self .., List.mem_cons_of_mem _ (List.mem_cons_of_mem _ jD), em, ez, by simp [jl]; omega, ?_⟩)
    · intro p hp
      rcases List.mem_append.mp hp with hp | hp
      · exact N' _ (List.mem_cons_of_mem _ (List.mem_cons_of_mem _ (List.mem_cons_of_mem _ (List.mem_cons_of_mem _ (List.mem_append_left _ hp)))))
      · rcases List.mem_cons.mp hp with rfl | hp
        · exact N' _ (List.mem_cons_self ..)
        · rcases List.mem_cons.mp hp with rfl | hp
          · exact N' _ (List.mem_cons_of_mem _ (List.mem_cons_self ..))
          · exact N' _ (List.mem_cons_of_mem _ (List.mem_cons_of_mem _ (List.mem_cons_of_mem _ (List.mem_cons_of_mem _ (List.mem_append_right _ hp)))))
    · intro p hp hI
      have hI2 := List.mem_singleton.mp hI
      rcases List.mem_cons.mp hp with rfl | hp
      · have := (N' _ (List.mem_cons_self ..)).1
        dsimp only at hI2 this
        rw [hI2, hI'] at this
        have : Value.type "range_iterator" = Value.type "list" := congrArg Obj.cls (Option.some.inj this)
        exact absurd this (by simp)
      · rcases List.mem_cons.mp hp with rfl | hp
        · have := (N' _ (List.mem_cons_of_mem _ (List.mem_cons_self ..))).1
          dsimp only at hI2 this
          rw [hI2, hI'] at this
          have : Value.type "range_iterator" = Value.type "tuple" := congrArg Obj.cls (Option.some.inj this)
          exact absurd this (by simp)
        · exact hoff p hp hI
    · intro x hx
      rcases List.mem_append.mp hx with hx | hx
      · exact (jg x hx).mono fun p hp => List.mem_cons_of_mem _ (List.mem_cons_of_mem _ hp)
      · rw [List.mem_singleton.mp hx]
        exact ⟨tt, aa, bb, cc, t1, t2, t3, rfl, List.mem_cons_of_mem _ (List.mem_cons_self ..), hB⟩
  · rintro h' tk m' news' F' N' hoff ⟨T', items', jT, jD, jm, jz, jl, jg⟩
    have e := tripF_eq (st := m' (Str.ofString "start")) jm jz
    have e2 : (fun y => if y = Str.ofString "start" then m' (Str.ofString "start") else m' y) = m' := by
      funext y; split
      · rename_i h; rw [h]
      · rfl
    rw [e2] at e
    rw [e] at F'
    exact done T' items' news' m' _ h' tk jT jg F' N'
end
end Mine
end
/- MyTripC2 -/
section
open PySem PySem.W PyProof.Rows PySem.Spec PySem.Calls PySem.Flt
set_option maxRecDepth 100000
set_option maxHeartbeats 8000000
namespace Mine
local macro_rules | `(tactic| walk_at $s:str) => `(tactic| k_extra $s)
theorem good4 {parts : Int} {news : List (Addr × Obj)} {d1 d2 d3 d4 : Addr} (h1 : GoodIn parts news (.ref d1)) (h2 : GoodIn parts news (.ref d2)) (h3 : GoodIn parts news (.ref d3)) (h4 : GoodIn parts news (.ref d4)) : ∀ x ∈ [Value.ref d1, .ref d2, .ref d3, .ref d4], GoodIn parts news x := by
  intro x hx
  simp only [List.mem_cons, List.not_mem_nil, or_false] at hx
  rcases hx with rfl | rfl | rfl | rfl <;> assumption
theorem around_b {n r : Int} (h : 0 ≤ r) : -r ≤ aroundI n r ∧ aroundI n r ≤ r := by
  unfold aroundI
  have h1 := Int.fmod_nonneg_of_pos (n + r) (show 0 < 2 * r + 1 by omega)
  have h2 := Int.fmod_lt_of_pos (n + r) (show 0 < 2 * r + 1 by omega)
  omega
theorem around_tri {x y z parts r : Int} (hp : 0 ≤ parts) (hr : r = 4096) : TriB parts (aroundI x r) (aroundI y (4 * parts)) (aroundI z (4 * parts)) := by
  subst hr
  have h1 := around_b (n := x) (r := 4096) (by omega)
  have h2 := around_b (n := y) (r := 4 * parts) (by omega)
  have h3 := around_b (n := z) (r := 4 * parts) (by omega)
  exact ⟨h1.1, h1.2, h2.1, h2.2, h3.1, h3.2⟩
theorem tripEnd_in {h₀ h' : Heap} {L T' tt l' : Addr} {parts a b c : Int} {t1 t2 t3 : Tok} {m₀ m' : Str → Option Value} {items : List Value} {led : List (Addr × Obj)} {s₁ : Shared} {tk : Nat} {lo : Obj}
    (F : Fr h₀ L h' m') (N : News h₀ L h' ((T', W.listOf (items ++ [Value.ref tt]).toArray 0) :: (l', lo) :: (tt, tupI a b c t1 t2 t3) :: led)) (hm : m' (Str.ofString "triples") = some (.ref T')) (hz : ∀ z, OffT z → m' z = m₀ z) (hB : TriB parts a b c) :
    TripEnd h₀ L parts m₀ items led s₁ .next { s₁ with heap := h', toks := tk } :=
  ⟨rfl, h', tk, m', T', tt, a, b, c, t1, t2, t3, rfl, F, fun p hp => by
    rcases List.mem_cons.mp hp with rfl | hp
    · exact N _ (List.mem_cons_self ..)
    · exact N _ (List.mem_cons_of_mem _ (List.mem_cons_of_mem _ hp)), hm, hz, hB⟩
theorem c_trip (w : World) (mean : ExcName → Option Value) (mg mb : Str → Option Value) (news : List (Addr × Obj)) (C : Addr) (ws : List Value) (ns : List Int) (hues parts : Int) (t4 t5 : Tok)
   (hI : IntsAre ws ns) (hlen : ns.length ≤ 19) (b7 : 4 ≤ hues) (b8 : hues ≤ 1024) (b9 : 2 ≤ parts) (b10 : parts ≤ 1024) :
   FClaim w mean mg mb 82 ((C, W.listOf ws.toArray 0) :: news) [.ref C, .int hues t4, .int parts t5] 3 (fun h₀ L m s Q => ∀ (D : Addr) (items : List Value) nt h' tk', (D, W.listOf items.toArray 0) ∈ nt → (∀ x ∈ items, GoodIn parts nt x) → Fr h₀ L h' m → News h₀ L h' ((C, W.listOf ws.toArray 0) :: news) → News h₀ L h' nt → Q (.ref D) { s with heap := h', toks := tk' }) := by
  unfold FClaim
  k_with_none
  (k_with "call ref" => (k_here; (with_reducible show wpAny _ _ (call (Value.ref 56) _) _ _ _); k_dflt (refine useA (c_around _ _ _ _ _ _ _ _ _ (by first | omega | decide)) ?_; k_whole); intro t9 h9 tk9 F9 N9; (try dsimp only); (try k_fold)))
  w_top off
  k_fill
  intro dp un gd cn cs a ccd cl outer A₀ base h₀ L m st Q E B F X N T hk hd hu hs hret
  have b11 : hues.fdiv 2 = hues / 2 := Int.fdiv_eq_ediv_of_nonneg _ (by omega)
  refine wpAny_call ?_
  k_dflt (refine' code_free ?k1 ?k2 ?k3 ?k4 ?k5 ?kA ?kF ?kK ?k6 ?k7 ?k8 ?k9 ?kB ?_ ?c2 ?c3 ?c4 ?c5; (case kA => exact rfl); (case kF => exact rfl); (case kK => assumption); (case k1 => k_asm); (case k2 => k_asm); (case k3 => k_asm); (case k4 => k_asm); (case k5 => k_asm); (case k6 => k_is); (case k7 => k_is); (case k8 => ktr_room); (case k9 => exact BindsTo.of_eq rfl); (case c5 => decide); (case kB => exact locs rfl); (case c2 => exact rfl); (case c3 => exact rfl); (case c4 => exact rfl); k_whole; intro g' L' h' NG' FG' F' N' B' X' T'; (try dsimp only); (try k_lift B'); (try k_fold))
  have hL : g'.IsList C ws.toArray := ⟨_, (NG'.out _ (List.mem_cons_self ..)).1, rfl, 0, rfl⟩
  k_steps
  ((rename IsRange _ _ _ _ _ _ _ _ => R9); (rename Fr _ _ _ _ => F9); (rename News _ _ _ _ => N9); (rename IntsAre _ (List.drop 1 _ ++ [0, 0]) => I9); k_dflt (refine' trip_iter parts rfl R9 ?b0 ?b1 F9 N9 (List.mem_cons_of_mem _ (List.mem_cons_of_mem _ (List.mem_cons_of_mem _ (List.mem_cons_self ..)))) (List.mem_cons_self ..) ?hm ?h4 (good4 ?g1 ?g2 ?g3 ?g4) ?hturn ?hdone; (case b0 => omega); (case b1 => omega); (case hm => exact rfl); (case h4 => exact rfl); (case g1 => exact ⟨_, _, _, _, _, _, _, rfl, by k_mem, ⟨by omega, by omega, by omega, by omega, by omega, by omega⟩⟩); (case g2 => exact ⟨_, _, _, _, _, _, _, rfl, by k_mem, ⟨by omega, by omega, by omega, by omega, by omega, by omega⟩⟩); (case g3 => exact ⟨_, _, _, _, _, _, _, rfl, by k_mem, ⟨by omega, by omega, by omega, by omega, by omega, by omega⟩⟩); (case g4 => exact ⟨_, _, _, _, _, _, _, rfl, by k_mem, ⟨by omega, by omega, by omega, by omega, by omega, by omega⟩⟩)); (case' hturn => (clear F9 N9 R9; intro i9 T9 items9 rest9 um9 t9 h9 tk9 hi9 hl9 hj9 F9 N9; dsimp only [tripF] at F9)); (case' hdone => (clear F9 N9 R9; intro T9 items9 led9 um9 st9 h9 tk9 hT9 hg9 F9 N9; dsimp only [tripF] at F9)))
  k_steps
  · exact hret _ _ _ _ _ hT9 hg9 (by k_asm) (newsBack NG' (by assumption)) (by assumption)
  · refine tripEnd_in (by assumption) (by assumption) ?_ ?_ ?_
    · exact rfl
    · intro z hz
      dsimp only [tripF]
      simp only [if_neg hz.h1, if_neg hz.h2, if_neg hz.h3, if_neg hz.h4, if_neg hz.h5]
    · exact around_tri (by omega) (by decide)
end Mine
end
/- MyJoin -/
section
open PySem PySem.W PyProof.Rows PySem.Spec PySem.Calls PySem.Flt
set_option maxRecDepth 100000
set_option maxHeartbeats 8000000
namespace Mine
theorem use0 {w : World} {mean : ExcName → Option Value} {mg mb : Str → Option Value} {f : Addr} {news : List (Addr × Obj)} {vs : List Value} {dn : Nat}
    {Ret : Heap → Addr → (Str → Option Value) → Shared → (Value → Shared → Prop) → Prop} (C : F0Claim w mean mg mb f news vs dn Ret)
    {dp un : Nat} {gd : Option (List Code)} {cn : Str} {cs : Scope} {a : Addr} {ccd : Value} {A₀ : Around} {h₀ : Heap} {L : Addr} {m : Str → Option Value} {s : Shared} {Q E : Value → Shared → Prop}
    (B : Below A₀ h₀ [] h₀) (F : Fr h₀ L s.heap m) (X : (Mine.hd.heap_39 w.params).In h₀) (N : News h₀ L s.heap news)
    (T : Top Mine.hd.view_39 (looseW Mine.hd.view_39 [Str.ofString "ONE_THIRD", Str.ofString "ONE_SIXTH", Str.ofString "TWO_THIRD"]) mean mg mb h₀) (hk : cs.kind = .function)
    (hd : dp + dn < recursionLimit) (hu : un + 8 * dn < cLine) (R : Ret h₀ L m s Q) :
      wpAny (model PySem.Challenge.rw_dz0010_01.row.prog w) { handled := none, depth := dp, frames := some [envOf cn cs L a ccd], guards := gd, units := un } (call (.ref f) vs) Q E s := C _ _ _ _ _ _ _ _ _ _ _ _ _ _ B F X N T hk hd hu R
theorem use0A {w : World} {mean : ExcName → Option Value} {mg mb : Str → Option Value} {f : Addr} {news : List (Addr × Obj)} {vs : List Value} {dn : Nat}
    {Ret : Heap → Addr → (Str → Option Value) → Shared → (Value → Shared → Prop) → Prop} (C : F0Claim w mean mg mb f news vs dn Ret)
    {dp un : Nat} {gd : Option (List Code)} {cn : Str} {cs : Scope} {a : Addr} {ccd : Value} {A₀ : Around} {h₀ : Heap} {L : Addr} {m : Str → Option Value} {s : Shared} {Q E : Value → Shared → Prop}
    (R : Ret h₀ L m s Q) (B : Below A₀ h₀ [] h₀ := by k_asm) (F : Fr h₀ L s.heap m := by k_asm) (X : (Mine.hd.heap_39 w.params).In h₀ := by k_asm) (N : News h₀ L s.heap news := by k_asm)
    (T : Top Mine.hd.view_39 (looseW Mine.hd.view_39 [Str.ofString "ONE_THIRD", Str.ofString "ONE_SIXTH", Str.ofString "TWO_THIRD"]) mean mg mb h₀ := by k_asm) (hk : cs.kind = .function := by first | exact rfl | assumption)
    (hd : dp + dn < recursionLimit := by ktr_room) (hu : un + 8 * dn < cLine := by ktr_units) :
      wpAny (model PySem.Challenge.rw_dz0010_01.row.prog w) { handled := none, depth := dp, frames := some [envOf cn cs L a ccd], guards := gd, units := un } (call (.ref f) vs) Q E s := use0 C B F X N T hk hd hu R
section
variable {a b : Nat} {turn share level hues parts : Int}
theorem Tri.sizes (T : Tri a b turn share level hues parts) : 4 ≤ hues ∧ hues ≤ 1024 ∧ 2 ≤ parts ∧ parts ≤ 1024 := by
  obtain ⟨a2, a10, b1, b10, hh, hp, _⟩ := T
  have h1 : 2 ^ 2 ≤ 2 ^ a := Nat.pow_le_pow_right (by omega) a2
  have h2 : 2 ^ a ≤ 2 ^ 10 := Nat.pow_le_pow_right (by omega) a10
  have h3 : 2 ^ 1 ≤ 2 ^ b := Nat.pow_le_pow_right (by omega) b1
  have h4 : 2 ^ b ≤ 2 ^ 10 := Nat.pow_le_pow_right (by omega) b10
  omega
theorem Tri.nes (T : Tri a b turn share level hues parts) : Ne0 (parts * parts * hues) ∧ Ne0 (parts * parts) ∧ Small (parts * parts * hues) := by
  obtain ⟨h1, h2, h3, h4⟩ := T.sizes
  have p1 := mul_le_of (x := parts) (y := parts) (X := 1024) (Y := 1024) (by omega) (by omega) (by omega) (by omega)
  have p2 := mul_le_of (x := parts * parts) (y := hues) (X := 1048576) (Y := 1024) (by omega) (by omega) (by omega) (by omega)
  have q1 : 0 < parts * parts := Int.mul_pos (by omega) (by omega)
  have q2 : 0 < parts * parts * hues := Int.mul_pos q1 (by omega)
  exact ⟨⟨by omega⟩, ⟨by omega⟩, ⟨by omega, by omega⟩⟩
abbrev RetTrue (news : List (Addr × Obj)) (h₀ : Heap) (L : Addr) (m : Str → Option Value) (s : Shared) (Q : Value → Shared → Prop) : Prop :=
  ∀ h' (tk' : Nat), 0 < tk' → Fr h₀ L h' m → News h₀ L h' news → Q (.bool true) { s with heap := h', toks := tk' }
theorem c_value (w : World) (mean : ExcName → Option Value) (mg mb : Str → Option Value) (news : List (Addr × Obj)) (t1 t2 t3 t4 t5 : Tok) (T : Tri a b turn share level hues parts) (h0 : 0 ≤ turn) :
    F0Claim w mean mg mb 70 news [.int turn t1, .int share t2, .int level t3, .int hues t4, .int parts t5] 3 (RetTrue news) := by
  obtain ⟨h1, h2, h3, h4⟩ := T.sizes
  obtain ⟨n1, n2, n3⟩ := T.nes
  have q1 := T.t2
  have q2 := T.s1
  have q3 := T.s2
  have q4 := T.l1
  have q5 := T.l2
  refine c_valC w mean mg mb news turn share level hues parts t1 t2 t3 t4 t5 h0 q1 (by omega) (by omega) (by omega) (by omega) h1 h2 h3 h4 n1 n2 (T.valIn h0) ⟨?_⟩
  by_cases hs : 0 ≤ share * level
  · exact .inr (.inl ⟨hs, T.valZ h0 (fun h => absurd hs (by omega)), T.valOk h0⟩)
  · by_cases he : share = parts
    · exact .inl ⟨by omega, he, T.valNo h0 (by omega) he⟩
    · exact .inr (.inr ⟨by omega, by omega, T.valZ h0 (fun _ => he), T.valNeg h0 (by omega) he⟩)
theorem c_light (w : World) (mean : ExcName → Option Value) (mg mb : Str → Option Value) (news : List (Addr × Obj)) (t1 t2 t3 t4 t5 : Tok) (T : Tri a b turn share level hues parts) :
    FClaim w mean mg mb 75 news [.int turn t1, .int share t2, .int level t3, .int hues t4, .int parts t5] 3 (RetTrue news) := by
  obtain ⟨h1, h2, h3, h4⟩ := T.sizes
  obtain ⟨n1, n2, n3⟩ := T.nes
  have q0 := T.t1
  have q1 := T.t2
  have q2 := T.s1
  have q3 := T.s2
  have q4 := T.l1
  have q5 := T.l2
  exact c_lightC w mean mg mb news turn share level hues parts t1 t2 t3 t4 t5 q0 q1 (by omega) (by omega) (by omega) (by omega) h1 h2 h3 h4 n1 n2 n3 ⟨fun half hH => T.light (by
    rcases hH with ⟨h, rfl⟩ | ⟨h, rfl⟩
    · exact .inl ⟨h, rfl⟩
    · exact .inr ⟨h, rfl⟩)⟩
end
end Mine
end
/- MyLawH -/
section
open PySem PySem.W PyProof.Rows PySem.Spec PySem.Calls PySem.Flt
set_option maxRecDepth 100000
set_option maxHeartbeats 8000000
namespace Mine
/-- the frame in the law's loop -/
def lawF (m₀ u : Str → Option Value) (hv pv : Value) : Str → Option Value := fun y =>
  if y = Str.ofString "turn" then u y else if y = Str.ofString "share" then u y else if y = Str.ofString "level" then u y else if y = Str.ofString "hues" then some hv else if y = Str.ofString "parts" then some pv else m₀ y
structure OffL (z : Str) : Prop where
  h1 : z ≠ Str.ofString "turn"
  h2 : z ≠ Str.ofString "share"
  h3 : z ≠ Str.ofString "level"
theorem lawF_eq {m m₀ : Str → Option Value} {hv pv : Value} (hz : ∀ z, OffL z → m z = m₀ z) (h1 : m₀ (Str.ofString "hues") = some hv) (h2 : m₀ (Str.ofString "parts") = some pv) : m = lawF m₀ m hv pv := by
  funext y
  unfold lawF
  by_cases g1 : y = Str.ofString "turn"
  · rw [if_pos g1]
  rw [if_neg g1]
  by_cases g2 : y = Str.ofString "share"
  · rw [if_pos g2]
  rw [if_neg g2]
  by_cases g3 : y = Str.ofString "level"
  · rw [if_pos g3]
  rw [if_neg g3, hz y ⟨g1, g2, g3⟩]
  by_cases g4 : y = Str.ofString "hues"
  · rw [if_pos g4, g4, h1]
  rw [if_neg g4]
  by_cases g5 : y = Str.ofString "parts"
  · rw [if_pos g5, g5, h2]
  rw [if_neg g5]
/-- a turn's end -/
def LawEnd (h₀ : Heap) (L : Addr) (m₀ : Str → Option Value) (led : List (Addr × Obj)) (s₁ : Shared) (f : Flow) (s₂ : Shared) : Prop :=
  f = .next ∧ ∃ h' tk m', s₂ = { s₁ with heap := h', toks := tk } ∧ Fr h₀ L h' m' ∧ News h₀ L h' led ∧ ∀ z, OffL z → m' z = m₀ z
section
variable {prog : Program} {w : World} {A : Around} {E : Value → Shared → Prop} {s : Shared} {env : Env} {h₀ : Heap} {target : Expr} {body : List Stmt} {Q : Flow → Shared → Prop}
theorem law_iter {D : Addr} {m₀ : Str → Option Value} {news : List (Addr × Obj)} {items : List Value} {hv pv : Value} (parts : Int)
    (hh : A.handled = none) (F : Fr h₀ env.locals s.heap m₀) (N : News h₀ env.locals s.heap news) (hD : (D, W.listOf items.toArray 0) ∈ news) (hg : ∀ x ∈ items, GoodIn parts news x)
    (e1 : m₀ (Str.ofString "hues") = some hv) (e2 : m₀ (Str.ofString "parts") = some pv)
    (turn : ∀ (tt : Addr) (a b c : Int) (t1 t2 t3 : Tok) (rest : List (Addr × Obj)) (um : Str → Option Value) (h : Heap) (tk : Nat), TriB parts a b c →
      Fr h₀ env.locals h (lawF m₀ um hv pv) → News h₀ env.locals h ((tt, tupI a b c t1 t2 t3) :: rest) →
      wpAny (model prog w) A (assign target env (.ref tt)) (fun _ s₂ => wpAny (model prog w) A (execs body env) (LawEnd h₀ env.locals m₀ ((tt, tupI a b c t1 t2 t3) :: rest) { s with heap := h, toks := tk }) E s₂) E { s with heap := h, toks := tk })
    (done : ∀ (um : Str → Option Value) (h : Heap) (tk : Nat), Fr h₀ env.locals h (lawF m₀ um hv pv) → News h₀ env.locals h news → Q .next { s with heap := h, toks := tk }) :
    wpAny (model prog w) A (pyIter (.ref D)) (fun it s₂ => TurnsAt prog w A h₀ env target body Q E it s₂) E s := by
  have hax := N _ hD
  have hl : s.heap.IsList D items.toArray := ⟨_, hax.1, rfl, 0, rfl⟩
  have hlt : D < s.heap.objs.size := Heap.lt_size hax.1
  have hne : D ≠ s.heap.objs.size := Nat.ne_of_lt hlt
  refine wpAny_pyIter_list hl ?_
  let J : Nat → (Str → Option Value) → List (Addr × Obj) → Prop := fun _ m news₁ => news₁ = news ∧ ∀ z, OffL z → m z = m₀ z
  refine ⟨_, _, _, _, _, _, _, m₀, news, J, rfl, KTurns.ofWalks (Walks.list hh s.heap.objs.size D hne items.toArray) fun i v s Q E st q => letGo_listiter st.1 q, ?_, ?_, ?_, ?_, F.push _, (fun p hp => ⟨Heap.get?_push_of_some _ (N p hp).1, (N p hp).2⟩), ⟨rfl, fun _ _ => rfl⟩, ?_, ?_⟩
  · intro hI
    rcases List.mem_cons.mp hI with e | hI
    · exact absurd F.ns.lt (e ▸ Nat.lt_irrefl _)
    · exact hax.2.1 (List.mem_singleton.mp hI).symm
  · intro b hb
    rw [List.mem_singleton.mp hb]
    exact next_is_new F
  · intro p hp hI
    exact absurd (Heap.lt_size (N p hp).1) ((List.mem_singleton.mp hI) ▸ Nat.lt_irrefl _)
  · exact ⟨⟨_, Heap.get?_push_size _ rfl, rfl, rfl⟩, hl.at fun o e => Heap.get?_push_of_some _ e⟩
  · rintro i v m₁ news₁ h₁ tk₁ own hin hP ⟨rfl, hz⟩ hoff hsub hget hall hst F₁ N₁
    have hv' : items.toArray[i]? = some v := hP
    have hv2 : items[i]? = some v := by simpa using hv'
    obtain ⟨tt, a, b, c, t1, t2, t3, rfl, hm, hB⟩ := hg v (List.mem_of_getElem? hv2)
    rw [lawF_eq hz e1 e2] at F₁
    have N₂ : News h₀ env.locals h₁ ((tt, tupI a b c t1 t2 t3) :: (own ++ news₁)) := by
      intro p hp
      rcases List.mem_cons.mp hp with rfl | hp
      · exact N₁ _ (List.mem_append_right _ hm)
      · exact N₁ _ hp
    refine wpAny_mono (turn tt a b c t1 t2 t3 (own ++ news₁) m₁ h₁ tk₁ hB F₁ N₂) (fun _ s₂ h₂ => wpAny_mono h₂ (fun f s₃ p => ?_) fun _ _ e => e) fun _ _ e => e
    obtain ⟨rfl, h', tk, m', rfl, F', N', hz'⟩ := p
    exact .next (LoopStepU.intro F' (fun p hp => N' p (List.mem_cons_of_mem _ hp)) hoff ⟨rfl, hz'⟩)
  · rintro h' tk m' news' F' N' hoff ⟨rfl, hz⟩
    rw [lawF_eq hz e1 e2] at F'
    exact done m' h' tk F' N'
end
end Mine
end
/- MyLaw -/
section
open PySem PySem.W PyProof.Rows PySem.Spec PySem.Calls PySem.Flt
set_option maxRecDepth 100000
set_option maxHeartbeats 8000000
namespace Mine
local macro_rules | `(tactic| walk_at $s:str) => `(tactic| k_extra $s)
theorem pow_low {n k : Nat} (h : k ≤ n) : ((2 ^ k : Nat) : Int) ≤ (2 : Int) ^ n := by
  have : 2 ^ k ≤ 2 ^ n := Nat.pow_le_pow_right (by omega) h
  have e : ((2 ^ n : Nat) : Int) = (2 : Int) ^ n := Int.natCast_pow 2 n
  omega
theorem pow_up {n k : Nat} (h : n ≤ k) : (2 : Int) ^ n ≤ ((2 ^ k : Nat) : Int) := by
  have : 2 ^ n ≤ 2 ^ k := Nat.pow_le_pow_right (by omega) h
  have e : ((2 ^ n : Nat) : Int) = (2 : Int) ^ n := Int.natCast_pow 2 n
  omega
theorem h_low {x : Int} (h : 0 ≤ x) : 4 ≤ (2 : Int) ^ (2 + x).toNat := pow_low (k := 2) (by omega)
theorem h_up {x : Int} (h : x < 9) : (2 : Int) ^ (2 + x).toNat ≤ 1024 := pow_up (k := 10) (by omega)
theorem p_low {x : Int} (h : 0 ≤ x) : 2 ≤ (2 : Int) ^ (1 + x).toNat := pow_low (k := 1) (by omega)
theorem p_up {x : Int} (h : x < 10) : (2 : Int) ^ (1 + x).toNat ≤ 1024 := pow_up (k := 10) (by omega)
theorem tri_of {x y a b c : Int} (h1 : 0 ≤ x) (h2 : x < 9) (h3 : 0 ≤ y) (h4 : y < 10) (hB : TriB ((2 : Int) ^ (1 + y).toNat) a b c) : Tri (2 + x).toNat (1 + y).toNat a b c ((2 : Int) ^ (2 + x).toNat) ((2 : Int) ^ (1 + y).toNat) :=
  ⟨by omega, by omega, by omega, by omega, (Int.natCast_pow 2 _).symm, (Int.natCast_pow 2 _).symm, hB.a1, hB.a2, hB.b1, hB.b2, hB.c1, hB.c2⟩
theorem Tri.abs {a b : Nat} {turn share level hues parts : Int} (T : Tri a b turn share level hues parts) : Tri a b (if turn < 0 then -turn else turn) share level hues parts := by
  have h1 := T.t1
  have h2 := T.t2
  exact ⟨T.a2, T.a10, T.b1, T.b10, T.hh, T.hp, by split <;> omega, by split <;> omega, T.s1, T.s2, T.l1, T.l2⟩
theorem abs_nn (a : Int) : 0 ≤ (if a < 0 then -a else a) := by split <;> omega
theorem lawEnd_in {h₀ h' : Heap} {L : Addr} {m₀ m' : Str → Option Value} {led : List (Addr × Obj)} {s₁ : Shared} {tk : Nat} (F : Fr h₀ L h' m') (N : News h₀ L h' led) (hz : ∀ z, OffL z → m' z = m₀ z) :
    LawEnd h₀ L m₀ led s₁ .next { s₁ with heap := h', toks := tk } := ⟨rfl, h', tk, m', rfl, F, N, hz⟩
structure CutMark : Prop where
  out : True
def FirstEnd (h₀ : Heap) (L : Addr) (m : Str → Option Value) (news : List (Addr × Obj)) (s : Shared) (v : Value) (s' : Shared) : Prop := ∃ x t h' tk, v = .int x t ∧ s' = { s with heap := h', toks := tk } ∧ Fr h₀ L h' m ∧ News h₀ L h' news
theorem first_cut {prog : Program} {w : World} {A : Around} {E : Value → Shared → Prop} {s : Shared} {Q : Value → Shared → Prop} {e : Expr} {env : Env} {h₀ : Heap} {L : Addr} {m : Str → Option Value} {news : List (Addr × Obj)} (F : Fr h₀ L s.heap m) (N : News h₀ L s.heap news)
    (h1 : wpAny (model prog w) A (eval e env) (fun v s' => FirstEnd h₀ L m news s v s') E s)
    (h2 : ∀ (x : Int) (t : Tok) (h' : Heap) (tk : Nat), Fr h₀ L h' m → News h₀ L h' news → Q (.int x t) { s with heap := h', toks := tk }) : wpAny (model prog w) A (eval e env) Q E s :=
  wpAny_mono h1 (fun v s' hv => by
    obtain ⟨x, t, h', tk, rfl, rfl, F', N'⟩ := hv
    exact h2 x t h' tk F' N') fun _ _ x => x
theorem xx : PySem.Challenge.rw_dz0010_01.Holds := hd (by
  k_with_none
  (k_with "exec For Tuple Call cons nil" => (k_here; (rename Fr _ _ _ _ => lF'); (with_unfolding_all refine' For_turns lF' ?_; k_whole)))
  (k_with "call ref" => (k_here; (with_reducible show wpAny _ _ (call (Value.ref 82) _) _ _ _); k_dflt (refine useA (c_trip _ _ _ _ _ _ _ _ _ _ _ _ (by assumption) (by omega) (by exact h_low (by assumption)) (by exact h_up (by assumption)) (by exact p_low (by assumption)) (by exact p_up (by assumption))) ?_; k_whole); (rename News _ _ _ _ => NO9); clear NO9; intro D9 items9 nt9 h9 tk9 hD9 hg9 F9 NC9 N9; clear NC9; (try dsimp only); (try k_fold)))
  (k_with "call ref" => (k_here; (with_reducible show wpAny _ _ (call (Value.ref 70) _) _ _ _); k_dflt (refine use0A (c_value _ _ _ _ _ _ _ _ _ _ (Tri.abs (by with_reducible assumption)) (abs_nn _)) ?_; k_whole); intro h9 tk9 hK9 F9 N9; (try dsimp only); (try k_fold)))
  (k_with "call ref" => (k_here; (with_reducible show wpAny _ _ (call (Value.ref 75) _) _ _ _); k_dflt (refine useA (c_light _ _ _ _ _ _ _ _ _ _ (by with_reducible assumption)) ?_; k_whole); intro h9 tk9 hK9 F9 N9; (try dsimp only); (try k_fold)))
  (k_with "eval IfExp" => (k_here; (with_reducible rename CutMark => M9); (rename Fr _ _ _ _ => F9); (rename News _ _ _ _ => N9); k_dflt (refine' first_cut F9 N9 ?ha ?hb); (case' ha => clear M9); (case' hb => (clear M9 F9 N9; intro x9 t9 h9 tk9 F9 N9; (try dsimp only)))))
  w_top off
  k_go0
  (all_goals try k_fold)
  have M9 : CutMark := ⟨trivial⟩
  k_steps
  all_goals first
    | ((with_reducible show FirstEnd _ _ _ _ _ _ _); exact ⟨_, _, _, _, rfl, rfl, by k_asm, by k_asm⟩)
    | ((rename News _ _ _ _ => N9); (rename Fr _ _ _ _ => F9); (rename ∀ x ∈ _, GoodIn _ _ x => G9); (rename ((_ : Addr), W.listOf _ 0) ∈ _ => D9); (rename (0 : Int) ≤ Int.fmod _ 9 => x1); (rename Int.fmod _ 9 < (9 : Int) => x2); (rename (0 : Int) ≤ Int.fmod _ 10 => x3); (rename Int.fmod _ 10 < (10 : Int) => x4); k_dflt (refine' law_iter _ rfl F9 N9 D9 G9 rfl rfl ?_ ?_))
  all_goals first
    | (clear F9 N9 D9 G9; intro tt9 a9 b9 c9 ta9 tb9 tc9 rest9 um9 h9 tk9 hB9 F9 N9; dsimp only [lawF] at F9; have T9 := tri_of x1 x2 x3 x4 hB9; (try dsimp only); (try k_fold))
    | (clear F9 N9 D9 G9; intro um9 h9 tk9 F9 N9; dsimp only [lawF] at F9; (try dsimp only); (try k_fold))
  k_steps
  all_goals (refine lawEnd_in (by assumption) (by assumption) ?_; intro z hz; by_cases q1 : z = Str.ofString "hues"; (subst q1; exact rfl); by_cases q2 : z = Str.ofString "parts"; (subst q2; exact rfl); simp only [lawF, if_neg hz.h1, if_neg hz.h2, if_neg hz.h3, if_neg q1, if_neg q2]))
end Mine
end
theorem PySem.Challenge.cw_dz0010_01_holds : PySem.Challenge.rw_dz0010_01.Holds :=
  Mine.xx
